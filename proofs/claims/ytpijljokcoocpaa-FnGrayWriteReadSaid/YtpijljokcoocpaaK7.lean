/-
  Walks of laws on gray images: what is written is read. No condition.
-/
import Derived.Test.YtpijljokcoocpaaK1
import Derived.Test.YtpijljokcoocpaaK0
import Derived.Test.YtpijljokcoocpaaPL
namespace Go.Proofs.Ytpijljokcoocpaa
open Go.ChangeShapes Go.WideShapes Go.ChangeAt Go.RowKit
set_option linter.unusedVariables false
set_option linter.unusedSimpArgs false

set_option maxRecDepth 100000 in
set_option maxHeartbeats 4000000 in
theorem fnGrayWriteRead_walk (w : World) (q : Q4) (hq : q.ok) (Z : Option Addr) (n cp : Nat) (zs : List Int) (hr : Rd w w.heap.size Z n zs) (x : Int) (hx : I64 x) (y : Int) (hy : I64 y) (v1 : Int) (hv1 : I64 v1) (u : Int) (hu : I64 u) (v : Int) (hv : I64 v) :
    Calls Try.prog 14 #[q.val, .slice Z n cp, .int .i64 x, .int .i64 y, .int .i64 v1, .int .i64 u, .int .i64 v] w fun e w' => e = .returned (.bool true) ∧ Below w.heap.size w w' := by
  obtain ⟨a, b, c, d⟩ := q
  obtain ⟨ha, hb, hc, hd⟩ := hq
  show Calls Try.prog 14 #[.agg #[.int .i64 a, .int .i64 b, .int .i64 c, .int .i64 d], .slice Z n cp, .int .i64 x, .int .i64 y, .int .i64 v1, .int .i64 u, .int .i64 v] w _
  have HR := Lib.hid hr
  clear hr
  have hrs := rect_same a b c d
  have hrd := rect_diff a b c d
  have hp0 := fun st v => pfld0 a b c d st v
  have hp2 := fun st A n cp => pfld2 a b c d st A n cp
  by_cases hf : Fine a b c d
  · obtain ⟨h3, h4, h5, h6, N, hN⟩ := fine_area hf
    have HF := Lib.hid hf
    have HN := Lib.hid hN
    clear hf
    by_cases hin : In a b c d x y
    · by_cases hjn : In a b c d u v
      · have kN := area_le h3 h4 h5 h6 hN
        have s1 : byt N (wrAt (byt N zs) a b c d x y (v1 % 256)) = wrAt (byt N zs) a b c d x y (v1 % 256) := byt_self (by rw [wrAt_length, byt_length]) (wrAt_ok (byt_ok N zs) (by omega) (by omega))
        have s2 : rdAt (byt N (wrAt (byt N zs) a b c d x y (v1 % 256))) a b c d x y = v1 % 256 := by rw [s1]; exact rd_wr_same hN (byt_length _ _) hin
        have s3 : ¬ (x = u ∧ y = v) → rdAt (byt N (wrAt (byt N zs) a b c d x y (v1 % 256))) a b c d u v = rdAt (byt N zs) a b c d u v := fun h => by rw [s1]; exact rd_wr_other hN hin hjn h
        have S2 := Lib.hid s2
        have S3 := Lib.hid s3
        clear s1 s2 s3
        by_cases hxu : x = u ∧ y = v
        · have t1 : (x == u) = true := by simp [hxu.1]
          have t2 : (y == v) = true := by simp [hxu.2]
          clear hxu
          have HI := Lib.hid hin
          clear hin
          have HJ := Lib.hid hjn
          clear hjn
          clear hN
          go_enter Try.func14, Try.ntmps14
          go_wp2_with fail
          refine (toRect4 _ _ _ _ _).mono ?_
          rintro e w1 ⟨rfl, b1⟩
          have z0 : w.heap.size < w1.heap.size := Nat.lt_of_lt_of_le (by simp) b1.size
          have z1 : w.heap.size < w1.heap.size + 1 := by omega
          have z2 : ¬ w.heap.size = w1.heap.size := by omega
          have z3 : w1.heap.size < w1.heap.size + 1 := by omega
          obtain ⟨hc1, _⟩ := bcell b1
          have c0 : w1.cell? ⟨w.heap.size, 0, none⟩ = some (.int .i64 a) := by rw [hc1 w.heap.size 0 (by simp)]; simp
          have c1 : w1.cell? ⟨w.heap.size, 1, none⟩ = some (.int .i64 b) := by rw [hc1 w.heap.size 1 (by simp)]; simp
          have c2 : w1.cell? ⟨w.heap.size, 2, none⟩ = some (.int .i64 c) := by rw [hc1 w.heap.size 2 (by simp)]; simp
          have c3 : w1.cell? ⟨w.heap.size, 3, none⟩ = some (.int .i64 d) := by rw [hc1 w.heap.size 3 (by simp)]; simp
          have bw0 : Below w.heap.size w w1 := ((Below.refl _ _).alloc (Nat.le_refl _) _).trans (b1.mono (by simp))
          have bw : Below w.heap.size w (w1.alloc (.cells #[.int .i64 a, .int .i64 b, .int .i64 c, .int .i64 d] 26)) := bw0.alloc bw0.size _
          clear hc1 b1
          go_wp2_with fail
          have c0 : (w1.alloc (.cells #[.int .i64 a, .int .i64 b, .int .i64 c, .int .i64 d] 26)).cell? ⟨w.heap.size, 0, none⟩ = some (.int .i64 a) := (World.cell?_alloc_lt w1 _ ⟨w.heap.size, 0, none⟩ z0).trans c0
          have c1 : (w1.alloc (.cells #[.int .i64 a, .int .i64 b, .int .i64 c, .int .i64 d] 26)).cell? ⟨w.heap.size, 1, none⟩ = some (.int .i64 b) := (World.cell?_alloc_lt w1 _ ⟨w.heap.size, 1, none⟩ z0).trans c1
          have c2 : (w1.alloc (.cells #[.int .i64 a, .int .i64 b, .int .i64 c, .int .i64 d] 26)).cell? ⟨w.heap.size, 2, none⟩ = some (.int .i64 c) := (World.cell?_alloc_lt w1 _ ⟨w.heap.size, 2, none⟩ z0).trans c2
          have c3 : (w1.alloc (.cells #[.int .i64 a, .int .i64 b, .int .i64 c, .int .i64 d] 26)).cell? ⟨w.heap.size, 3, none⟩ = some (.int .i64 d) := (World.cell?_alloc_lt w1 _ ⟨w.heap.size, 3, none⟩ z0).trans c3
          have q0 : (w1.alloc (.cells #[.int .i64 a, .int .i64 b, .int .i64 c, .int .i64 d] 26)).cell? ⟨w1.heap.size, 0, none⟩ = some (.int .i64 a) := by simp
          have q1 : (w1.alloc (.cells #[.int .i64 a, .int .i64 b, .int .i64 c, .int .i64 d] 26)).cell? ⟨w1.heap.size, 1, none⟩ = some (.int .i64 b) := by simp
          have q2 : (w1.alloc (.cells #[.int .i64 a, .int .i64 b, .int .i64 c, .int .i64 d] 26)).cell? ⟨w1.heap.size, 2, none⟩ = some (.int .i64 c) := by simp
          have q3 : (w1.alloc (.cells #[.int .i64 a, .int .i64 b, .int .i64 c, .int .i64 d] 26)).cell? ⟨w1.heap.size, 3, none⟩ = some (.int .i64 d) := by simp
          have zb : w.heap.size < (w1.alloc (.cells #[.int .i64 a, .int .i64 b, .int .i64 c, .int .i64 d] 26)).heap.size := by simpa using z1
          have zq : w1.heap.size < (w1.alloc (.cells #[.int .i64 a, .int .i64 b, .int .i64 c, .int .i64 d] 26)).heap.size := by simp
          go_wp2_with fail
          refine (fine_yes _ _ _ _ HF.out _).mono ?_
          rintro e wbf ⟨rfl, bf⟩
          replace c0 := (bf.cell (p := ⟨w.heap.size, 0, none⟩) zb).trans c0
          replace c1 := (bf.cell (p := ⟨w.heap.size, 1, none⟩) zb).trans c1
          replace c2 := (bf.cell (p := ⟨w.heap.size, 2, none⟩) zb).trans c2
          replace c3 := (bf.cell (p := ⟨w.heap.size, 3, none⟩) zb).trans c3
          replace q0 := (bf.cell (p := ⟨w1.heap.size, 0, none⟩) zq).trans q0
          replace q1 := (bf.cell (p := ⟨w1.heap.size, 1, none⟩) zq).trans q1
          replace q2 := (bf.cell (p := ⟨w1.heap.size, 2, none⟩) zq).trans q2
          replace q3 := (bf.cell (p := ⟨w1.heap.size, 3, none⟩) zq).trans q3
          replace zb := Nat.lt_of_lt_of_le zb bf.size
          replace zq := Nat.lt_of_lt_of_le zq bf.size
          replace bw := bw.trans (bf.mono bw.size)
          go_wp2_with fail
          refine (has_yes _ _ _ _ _ _ HI.out _).mono ?_
          rintro e wbh ⟨rfl, bh⟩
          replace c0 := (bh.cell (p := ⟨w.heap.size, 0, none⟩) zb).trans c0
          replace c1 := (bh.cell (p := ⟨w.heap.size, 1, none⟩) zb).trans c1
          replace c2 := (bh.cell (p := ⟨w.heap.size, 2, none⟩) zb).trans c2
          replace c3 := (bh.cell (p := ⟨w.heap.size, 3, none⟩) zb).trans c3
          replace q0 := (bh.cell (p := ⟨w1.heap.size, 0, none⟩) zq).trans q0
          replace q1 := (bh.cell (p := ⟨w1.heap.size, 1, none⟩) zq).trans q1
          replace q2 := (bh.cell (p := ⟨w1.heap.size, 2, none⟩) zq).trans q2
          replace q3 := (bh.cell (p := ⟨w1.heap.size, 3, none⟩) zq).trans q3
          replace zb := Nat.lt_of_lt_of_le zb bh.size
          replace zq := Nat.lt_of_lt_of_le zq bh.size
          replace bw := bw.trans (bh.mono bw.size)
          go_wp2_with fail
          refine (has_yes _ _ _ _ _ _ HJ.out _).mono ?_
          rintro e wbi ⟨rfl, bi⟩
          replace c0 := (bi.cell (p := ⟨w.heap.size, 0, none⟩) zb).trans c0
          replace c1 := (bi.cell (p := ⟨w.heap.size, 1, none⟩) zb).trans c1
          replace c2 := (bi.cell (p := ⟨w.heap.size, 2, none⟩) zb).trans c2
          replace c3 := (bi.cell (p := ⟨w.heap.size, 3, none⟩) zb).trans c3
          replace q0 := (bi.cell (p := ⟨w1.heap.size, 0, none⟩) zq).trans q0
          replace q1 := (bi.cell (p := ⟨w1.heap.size, 1, none⟩) zq).trans q1
          replace q2 := (bi.cell (p := ⟨w1.heap.size, 2, none⟩) zq).trans q2
          replace q3 := (bi.cell (p := ⟨w1.heap.size, 3, none⟩) zq).trans q3
          replace zb := Nat.lt_of_lt_of_le zb bi.size
          replace zq := Nat.lt_of_lt_of_le zq bi.size
          replace bw := bw.trans (bi.mono bw.size)
          go_wp2_with fail
          refine (grayWrite_any a b c d N h3 h4 h5 h6 HN.out n cp Z zs x y v1 _ ((HR.out.below bw).more bw.size)).mono ?_
          rintro e wbg ⟨A1, cp1, rfl, r1, lo1, bg⟩
          replace c0 := (bg.cell (p := ⟨w.heap.size, 0, none⟩) zb).trans c0
          replace c1 := (bg.cell (p := ⟨w.heap.size, 1, none⟩) zb).trans c1
          replace c2 := (bg.cell (p := ⟨w.heap.size, 2, none⟩) zb).trans c2
          replace c3 := (bg.cell (p := ⟨w.heap.size, 3, none⟩) zb).trans c3
          replace q0 := (bg.cell (p := ⟨w1.heap.size, 0, none⟩) zq).trans q0
          replace q1 := (bg.cell (p := ⟨w1.heap.size, 1, none⟩) zq).trans q1
          replace q2 := (bg.cell (p := ⟨w1.heap.size, 2, none⟩) zq).trans q2
          replace q3 := (bg.cell (p := ⟨w1.heap.size, 3, none⟩) zq).trans q3
          replace zb := Nat.lt_of_lt_of_le zb bg.size
          replace zq := Nat.lt_of_lt_of_le zq bg.size
          replace bw := bw.trans (bg.mono bw.size)
          go_wp2_with fail
          have zp : wbg.heap.size < (wbg.alloc (.cells #[.int .i64 a, .int .i64 b, .int .i64 c, .int .i64 d, .int .i64 (c - a), .slice A1 N cp1] 29)).heap.size := by simp
          have al : Below wbg.heap.size wbg (wbg.alloc (.cells #[.int .i64 a, .int .i64 b, .int .i64 c, .int .i64 d, .int .i64 (c - a), .slice A1 N cp1] 29)) := (Below.refl _ _).alloc (Nat.le_refl _) _
          replace c0 := (al.cell (p := ⟨w.heap.size, 0, none⟩) zb).trans c0
          replace c1 := (al.cell (p := ⟨w.heap.size, 1, none⟩) zb).trans c1
          replace c2 := (al.cell (p := ⟨w.heap.size, 2, none⟩) zb).trans c2
          replace c3 := (al.cell (p := ⟨w.heap.size, 3, none⟩) zb).trans c3
          replace q0 := (al.cell (p := ⟨w1.heap.size, 0, none⟩) zq).trans q0
          replace q1 := (al.cell (p := ⟨w1.heap.size, 1, none⟩) zq).trans q1
          replace q2 := (al.cell (p := ⟨w1.heap.size, 2, none⟩) zq).trans q2
          replace q3 := (al.cell (p := ⟨w1.heap.size, 3, none⟩) zq).trans q3
          have p0 : (wbg.alloc (.cells #[.int .i64 a, .int .i64 b, .int .i64 c, .int .i64 d, .int .i64 (c - a), .slice A1 N cp1] 29)).cell? ⟨wbg.heap.size, 0, none⟩ = some (.int .i64 a) := by simp
          have p1 : (wbg.alloc (.cells #[.int .i64 a, .int .i64 b, .int .i64 c, .int .i64 d, .int .i64 (c - a), .slice A1 N cp1] 29)).cell? ⟨wbg.heap.size, 1, none⟩ = some (.int .i64 b) := by simp
          have p2 : (wbg.alloc (.cells #[.int .i64 a, .int .i64 b, .int .i64 c, .int .i64 d, .int .i64 (c - a), .slice A1 N cp1] 29)).cell? ⟨wbg.heap.size, 2, none⟩ = some (.int .i64 c) := by simp
          have p3 : (wbg.alloc (.cells #[.int .i64 a, .int .i64 b, .int .i64 c, .int .i64 d, .int .i64 (c - a), .slice A1 N cp1] 29)).cell? ⟨wbg.heap.size, 3, none⟩ = some (.int .i64 d) := by simp
          have p4 : (wbg.alloc (.cells #[.int .i64 a, .int .i64 b, .int .i64 c, .int .i64 d, .int .i64 (c - a), .slice A1 N cp1] 29)).cell? ⟨wbg.heap.size, 4, none⟩ = some (.int .i64 (c - a)) := by simp
          have p5 : (wbg.alloc (.cells #[.int .i64 a, .int .i64 b, .int .i64 c, .int .i64 d, .int .i64 (c - a), .slice A1 N cp1] 29)).cell? ⟨wbg.heap.size, 5, none⟩ = some (.slice A1 N cp1) := by simp
          replace zb := Nat.lt_of_lt_of_le zb al.size
          replace zq := Nat.lt_of_lt_of_le zq al.size
          replace bw := bw.trans (al.mono bw.size)
          replace r1 := (r1.below al).more al.size
          clear al
          refine (grayRead_any a b c d N h3 h4 h5 h6 HN.out N cp1 A1 _ x y _ r1).mono ?_
          rintro e wbr ⟨rfl, br⟩
          rw [S2.out]
          replace c0 := (br.cell (p := ⟨w.heap.size, 0, none⟩) zb).trans c0
          replace c1 := (br.cell (p := ⟨w.heap.size, 1, none⟩) zb).trans c1
          replace c2 := (br.cell (p := ⟨w.heap.size, 2, none⟩) zb).trans c2
          replace c3 := (br.cell (p := ⟨w.heap.size, 3, none⟩) zb).trans c3
          replace q0 := (br.cell (p := ⟨w1.heap.size, 0, none⟩) zq).trans q0
          replace q1 := (br.cell (p := ⟨w1.heap.size, 1, none⟩) zq).trans q1
          replace q2 := (br.cell (p := ⟨w1.heap.size, 2, none⟩) zq).trans q2
          replace q3 := (br.cell (p := ⟨w1.heap.size, 3, none⟩) zq).trans q3
          replace zb := Nat.lt_of_lt_of_le zb br.size
          replace zq := Nat.lt_of_lt_of_le zq br.size
          replace bw := bw.trans (br.mono bw.size)
          replace r1 := (r1.below br).more br.size
          replace p0 := (br.cell (p := ⟨wbg.heap.size, 0, none⟩) zp).trans p0
          replace p1 := (br.cell (p := ⟨wbg.heap.size, 1, none⟩) zp).trans p1
          replace p2 := (br.cell (p := ⟨wbg.heap.size, 2, none⟩) zp).trans p2
          replace p3 := (br.cell (p := ⟨wbg.heap.size, 3, none⟩) zp).trans p3
          replace p4 := (br.cell (p := ⟨wbg.heap.size, 4, none⟩) zp).trans p4
          replace p5 := (br.cell (p := ⟨wbg.heap.size, 5, none⟩) zp).trans p5
          replace zp := Nat.lt_of_lt_of_le zp br.size
          go_wp2_with fail
          refine (low_any v1 hv1 _).mono ?_
          rintro e wbl ⟨rfl, rfl⟩
          go_wp2_with fail
          refine wp_region_held_drew (S := (fun w' => True)) (by kernel_rfl) trivial ?_
          intro hHeld
          refine take_at (i := 0) (D := 51) (v := .int .i64 x) rfl rfl (by kernel_rfl) (by kernel_rfl) (by kernel_rfl) (fun _ _ _ h => h) (Or.inl ⟨by rfl, fun W hSw => by (try dsimp only at hSw); go_simp⟩) (by assumption) ?_
          (try simp only [List.setIfInBounds_toArray, List.set_cons_zero, List.set_cons_succ])
          refine take_at (i := 1) (D := 52) (v := .int .i64 u) rfl rfl (by kernel_rfl) (by kernel_rfl) (by kernel_rfl) (fun _ _ _ h => h) (Or.inl ⟨by rfl, fun W hSw => by (try dsimp only at hSw); go_simp⟩) (by assumption) ?_
          (try simp only [List.setIfInBounds_toArray, List.set_cons_zero, List.set_cons_succ])
          refine take_at (i := 2) (D := 53) (v := .bool true) rfl rfl (by kernel_rfl) (by kernel_rfl) (by kernel_rfl) (fun _ _ _ h => h) (Or.inl ⟨by rfl, fun W hSw => by (try dsimp only at hSw); go_simp⟩) (by assumption) ?_
          (try simp only [List.setIfInBounds_toArray, List.set_cons_zero, List.set_cons_succ])
          refine take_at (i := 3) (D := 54) (v := .bool true) rfl rfl (by kernel_rfl) (by kernel_rfl) (by kernel_rfl) (fun _ _ _ h => h) (Or.inl ⟨by rfl, fun W hSw => by (try dsimp only at hSw); go_simp⟩) (by assumption) ?_
          (try simp only [List.setIfInBounds_toArray, List.set_cons_zero, List.set_cons_succ])
          refine take_at (i := 4) (D := 55) (v := .int .i64 y) rfl rfl (by kernel_rfl) (by kernel_rfl) (by kernel_rfl) (fun _ _ _ h => h) (Or.inl ⟨by rfl, fun W hSw => by (try dsimp only at hSw); go_simp⟩) (by assumption) ?_
          (try simp only [List.setIfInBounds_toArray, List.set_cons_zero, List.set_cons_succ])
          refine take_at (i := 5) (D := 56) (v := .int .i64 v) rfl rfl (by kernel_rfl) (by kernel_rfl) (by kernel_rfl) (fun _ _ _ h => h) (Or.inl ⟨by rfl, fun W hSw => by (try dsimp only at hSw); go_simp⟩) (by assumption) ?_
          (try simp only [List.setIfInBounds_toArray, List.set_cons_zero, List.set_cons_succ])
          refine take_at (i := 6) (D := 57) (v := .bool true) rfl rfl (by kernel_rfl) (by kernel_rfl) (by kernel_rfl) (fun _ _ _ h => h) (Or.inl ⟨by rfl, fun W hSw => by (try dsimp only at hSw); go_simp⟩) (by assumption) ?_
          (try simp only [List.setIfInBounds_toArray, List.set_cons_zero, List.set_cons_succ])
          refine take_at (i := 7) (D := 58) (v := .bool true) rfl rfl (by kernel_rfl) (by kernel_rfl) (by kernel_rfl) (fun _ _ _ h => h) (Or.inl ⟨by rfl, fun W hSw => by (try dsimp only at hSw); go_simp⟩) (by assumption) ?_
          (try simp only [List.setIfInBounds_toArray, List.set_cons_zero, List.set_cons_succ])
          refine take_at (i := 8) (D := 59) (v := .bool true) rfl rfl (by kernel_rfl) (by kernel_rfl) (by kernel_rfl) (fun _ _ _ h => h) (Or.inl ⟨by rfl, fun W hSw => by (try dsimp only at hSw); go_simp⟩) (by assumption) ?_
          (try simp only [List.setIfInBounds_toArray, List.set_cons_zero, List.set_cons_succ])
          refine take_at (i := 9) (D := 60) (v := undef) rfl rfl (by kernel_rfl) (by kernel_rfl) (by kernel_rfl) (fun _ _ _ h => h) (Or.inr ⟨by rfl, rfl⟩) (by assumption) ?_
          (try simp only [List.setIfInBounds_toArray, List.set_cons_zero, List.set_cons_succ])
          refine take_at (i := 10) (D := 61) (v := undef) rfl rfl (by kernel_rfl) (by kernel_rfl) (by kernel_rfl) (fun _ _ _ h => h) (Or.inr ⟨by rfl, rfl⟩) (by assumption) ?_
          (try simp only [List.setIfInBounds_toArray, List.set_cons_zero, List.set_cons_succ])
          refine take_at (i := 11) (D := 62) (v := undef) rfl rfl (by kernel_rfl) (by kernel_rfl) (by kernel_rfl) (fun _ _ _ h => h) (Or.inr ⟨by rfl, rfl⟩) (by assumption) ?_
          (try simp only [List.setIfInBounds_toArray, List.set_cons_zero, List.set_cons_succ])
          refine take_at (i := 12) (D := 63) (v := undef) rfl rfl (by kernel_rfl) (by kernel_rfl) (by kernel_rfl) (fun _ _ _ h => h) (Or.inr ⟨by rfl, rfl⟩) (by assumption) ?_
          (try simp only [List.setIfInBounds_toArray, List.set_cons_zero, List.set_cons_succ])
          refine take_at (i := 13) (D := 64) (v := undef) rfl rfl (by kernel_rfl) (by kernel_rfl) (by kernel_rfl) (fun _ _ _ h => h) (Or.inr ⟨by rfl, rfl⟩) (by assumption) ?_
          (try simp only [List.setIfInBounds_toArray, List.set_cons_zero, List.set_cons_succ])
          refine take_at (i := 15) (D := 66) (v := undef) rfl rfl (by kernel_rfl) (by kernel_rfl) (by kernel_rfl) (fun _ _ _ h => h) (Or.inr ⟨by rfl, rfl⟩) (by assumption) ?_
          (try simp only [List.setIfInBounds_toArray, List.set_cons_zero, List.set_cons_succ])
          refine take_at (i := 16) (D := 67) (v := undef) rfl rfl (by kernel_rfl) (by kernel_rfl) (by kernel_rfl) (fun _ _ _ h => h) (Or.inr ⟨by rfl, rfl⟩) (by assumption) ?_
          (try simp only [List.setIfInBounds_toArray, List.set_cons_zero, List.set_cons_succ])
          refine take_at (i := 17) (D := 68) (v := undef) rfl rfl (by kernel_rfl) (by kernel_rfl) (by kernel_rfl) (fun _ _ _ h => h) (Or.inr ⟨by rfl, rfl⟩) (by assumption) ?_
          (try simp only [List.setIfInBounds_toArray, List.set_cons_zero, List.set_cons_succ])
          refine take_at (i := 18) (D := 69) (v := undef) rfl rfl (by kernel_rfl) (by kernel_rfl) (by kernel_rfl) (fun _ _ _ h => h) (Or.inr ⟨by rfl, rfl⟩) (by assumption) ?_
          (try simp only [List.setIfInBounds_toArray, List.set_cons_zero, List.set_cons_succ])
          refine take_at (i := 14) (D := 65) (v := undef) rfl rfl (by kernel_rfl) (by kernel_rfl) (by kernel_rfl) (fun _ _ _ h => h) (Or.inr ⟨by rfl, rfl⟩) (by assumption) ?_
          (try simp only [List.setIfInBounds_toArray, List.set_cons_zero, List.set_cons_succ])
          refine take_at (i := 19) (D := 70) (v := undef) rfl rfl (by kernel_rfl) (by kernel_rfl) (by kernel_rfl) (fun _ _ _ h => h) (Or.inr ⟨by rfl, rfl⟩) (by assumption) ?_
          (try simp only [List.setIfInBounds_toArray, List.set_cons_zero, List.set_cons_succ])
          refine take_at (i := 20) (D := 71) (v := undef) rfl rfl (by kernel_rfl) (by kernel_rfl) (by kernel_rfl) (fun _ _ _ h => h) (Or.inr ⟨by rfl, rfl⟩) (by assumption) ?_
          (try simp only [List.setIfInBounds_toArray, List.set_cons_zero, List.set_cons_succ])
          refine take_at (i := 21) (D := 72) (v := .bool true) rfl rfl (by kernel_rfl) (by kernel_rfl) (by kernel_rfl) (fun _ _ _ h => h) (Or.inl ⟨by rfl, fun W hSw => by (try dsimp only at hSw); go_simp⟩) (by assumption) ?_
          (try simp only [List.setIfInBounds_toArray, List.set_cons_zero, List.set_cons_succ])
          refine take_at (i := 22) (D := 14) (v := .bool true) rfl rfl (by kernel_rfl) (by kernel_rfl) (by kernel_rfl) (fun _ _ _ h => h) (Or.inl ⟨by rfl, fun W hSw => by (try dsimp only at hSw); go_simp⟩) (by assumption) ?_
          (try simp only [List.setIfInBounds_toArray, List.set_cons_zero, List.set_cons_succ])
          refine wpAnyH_done (by kernel_rfl) ?_ _
          go_wp2_with fail
          go_ret
          exact ⟨rfl, bw.drew⟩
        · have hcase : (x == u) = false ∨ ((x == u) = true ∧ (y == v) = false) := by
            by_cases hx1 : x = u
            · right; exact ⟨by simp [hx1], by simp; exact fun hy1 => hxu ⟨hx1, hy1⟩⟩
            · left; simp [hx1]
          have S4 := Lib.hid (S3.out hxu)
          have hrr : (rdAt (byt N (wrAt (byt N zs) a b c d x y (v1 % 256))) a b c d u v == rdAt (byt N zs) a b c d u v) = true := by rw [S4.out]; simp
          clear hxu
          rcases hcase with t1 | ⟨t1, t2⟩
          · have HI := Lib.hid hin
            clear hin
            have HJ := Lib.hid hjn
            clear hjn
            clear hN
            go_enter Try.func14, Try.ntmps14
            go_wp2_with fail
            refine (toRect4 _ _ _ _ _).mono ?_
            rintro e w1 ⟨rfl, b1⟩
            have z0 : w.heap.size < w1.heap.size := Nat.lt_of_lt_of_le (by simp) b1.size
            have z1 : w.heap.size < w1.heap.size + 1 := by omega
            have z2 : ¬ w.heap.size = w1.heap.size := by omega
            have z3 : w1.heap.size < w1.heap.size + 1 := by omega
            obtain ⟨hc1, _⟩ := bcell b1
            have c0 : w1.cell? ⟨w.heap.size, 0, none⟩ = some (.int .i64 a) := by rw [hc1 w.heap.size 0 (by simp)]; simp
            have c1 : w1.cell? ⟨w.heap.size, 1, none⟩ = some (.int .i64 b) := by rw [hc1 w.heap.size 1 (by simp)]; simp
            have c2 : w1.cell? ⟨w.heap.size, 2, none⟩ = some (.int .i64 c) := by rw [hc1 w.heap.size 2 (by simp)]; simp
            have c3 : w1.cell? ⟨w.heap.size, 3, none⟩ = some (.int .i64 d) := by rw [hc1 w.heap.size 3 (by simp)]; simp
            have bw0 : Below w.heap.size w w1 := ((Below.refl _ _).alloc (Nat.le_refl _) _).trans (b1.mono (by simp))
            have bw : Below w.heap.size w (w1.alloc (.cells #[.int .i64 a, .int .i64 b, .int .i64 c, .int .i64 d] 26)) := bw0.alloc bw0.size _
            clear hc1 b1
            go_wp2_with fail
            have c0 : (w1.alloc (.cells #[.int .i64 a, .int .i64 b, .int .i64 c, .int .i64 d] 26)).cell? ⟨w.heap.size, 0, none⟩ = some (.int .i64 a) := (World.cell?_alloc_lt w1 _ ⟨w.heap.size, 0, none⟩ z0).trans c0
            have c1 : (w1.alloc (.cells #[.int .i64 a, .int .i64 b, .int .i64 c, .int .i64 d] 26)).cell? ⟨w.heap.size, 1, none⟩ = some (.int .i64 b) := (World.cell?_alloc_lt w1 _ ⟨w.heap.size, 1, none⟩ z0).trans c1
            have c2 : (w1.alloc (.cells #[.int .i64 a, .int .i64 b, .int .i64 c, .int .i64 d] 26)).cell? ⟨w.heap.size, 2, none⟩ = some (.int .i64 c) := (World.cell?_alloc_lt w1 _ ⟨w.heap.size, 2, none⟩ z0).trans c2
            have c3 : (w1.alloc (.cells #[.int .i64 a, .int .i64 b, .int .i64 c, .int .i64 d] 26)).cell? ⟨w.heap.size, 3, none⟩ = some (.int .i64 d) := (World.cell?_alloc_lt w1 _ ⟨w.heap.size, 3, none⟩ z0).trans c3
            have q0 : (w1.alloc (.cells #[.int .i64 a, .int .i64 b, .int .i64 c, .int .i64 d] 26)).cell? ⟨w1.heap.size, 0, none⟩ = some (.int .i64 a) := by simp
            have q1 : (w1.alloc (.cells #[.int .i64 a, .int .i64 b, .int .i64 c, .int .i64 d] 26)).cell? ⟨w1.heap.size, 1, none⟩ = some (.int .i64 b) := by simp
            have q2 : (w1.alloc (.cells #[.int .i64 a, .int .i64 b, .int .i64 c, .int .i64 d] 26)).cell? ⟨w1.heap.size, 2, none⟩ = some (.int .i64 c) := by simp
            have q3 : (w1.alloc (.cells #[.int .i64 a, .int .i64 b, .int .i64 c, .int .i64 d] 26)).cell? ⟨w1.heap.size, 3, none⟩ = some (.int .i64 d) := by simp
            have zb : w.heap.size < (w1.alloc (.cells #[.int .i64 a, .int .i64 b, .int .i64 c, .int .i64 d] 26)).heap.size := by simpa using z1
            have zq : w1.heap.size < (w1.alloc (.cells #[.int .i64 a, .int .i64 b, .int .i64 c, .int .i64 d] 26)).heap.size := by simp
            go_wp2_with fail
            refine (fine_yes _ _ _ _ HF.out _).mono ?_
            rintro e wbf ⟨rfl, bf⟩
            replace c0 := (bf.cell (p := ⟨w.heap.size, 0, none⟩) zb).trans c0
            replace c1 := (bf.cell (p := ⟨w.heap.size, 1, none⟩) zb).trans c1
            replace c2 := (bf.cell (p := ⟨w.heap.size, 2, none⟩) zb).trans c2
            replace c3 := (bf.cell (p := ⟨w.heap.size, 3, none⟩) zb).trans c3
            replace q0 := (bf.cell (p := ⟨w1.heap.size, 0, none⟩) zq).trans q0
            replace q1 := (bf.cell (p := ⟨w1.heap.size, 1, none⟩) zq).trans q1
            replace q2 := (bf.cell (p := ⟨w1.heap.size, 2, none⟩) zq).trans q2
            replace q3 := (bf.cell (p := ⟨w1.heap.size, 3, none⟩) zq).trans q3
            replace zb := Nat.lt_of_lt_of_le zb bf.size
            replace zq := Nat.lt_of_lt_of_le zq bf.size
            replace bw := bw.trans (bf.mono bw.size)
            go_wp2_with fail
            refine (has_yes _ _ _ _ _ _ HI.out _).mono ?_
            rintro e wbh ⟨rfl, bh⟩
            replace c0 := (bh.cell (p := ⟨w.heap.size, 0, none⟩) zb).trans c0
            replace c1 := (bh.cell (p := ⟨w.heap.size, 1, none⟩) zb).trans c1
            replace c2 := (bh.cell (p := ⟨w.heap.size, 2, none⟩) zb).trans c2
            replace c3 := (bh.cell (p := ⟨w.heap.size, 3, none⟩) zb).trans c3
            replace q0 := (bh.cell (p := ⟨w1.heap.size, 0, none⟩) zq).trans q0
            replace q1 := (bh.cell (p := ⟨w1.heap.size, 1, none⟩) zq).trans q1
            replace q2 := (bh.cell (p := ⟨w1.heap.size, 2, none⟩) zq).trans q2
            replace q3 := (bh.cell (p := ⟨w1.heap.size, 3, none⟩) zq).trans q3
            replace zb := Nat.lt_of_lt_of_le zb bh.size
            replace zq := Nat.lt_of_lt_of_le zq bh.size
            replace bw := bw.trans (bh.mono bw.size)
            go_wp2_with fail
            refine (has_yes _ _ _ _ _ _ HJ.out _).mono ?_
            rintro e wbi ⟨rfl, bi⟩
            replace c0 := (bi.cell (p := ⟨w.heap.size, 0, none⟩) zb).trans c0
            replace c1 := (bi.cell (p := ⟨w.heap.size, 1, none⟩) zb).trans c1
            replace c2 := (bi.cell (p := ⟨w.heap.size, 2, none⟩) zb).trans c2
            replace c3 := (bi.cell (p := ⟨w.heap.size, 3, none⟩) zb).trans c3
            replace q0 := (bi.cell (p := ⟨w1.heap.size, 0, none⟩) zq).trans q0
            replace q1 := (bi.cell (p := ⟨w1.heap.size, 1, none⟩) zq).trans q1
            replace q2 := (bi.cell (p := ⟨w1.heap.size, 2, none⟩) zq).trans q2
            replace q3 := (bi.cell (p := ⟨w1.heap.size, 3, none⟩) zq).trans q3
            replace zb := Nat.lt_of_lt_of_le zb bi.size
            replace zq := Nat.lt_of_lt_of_le zq bi.size
            replace bw := bw.trans (bi.mono bw.size)
            go_wp2_with fail
            refine (grayWrite_any a b c d N h3 h4 h5 h6 HN.out n cp Z zs x y v1 _ ((HR.out.below bw).more bw.size)).mono ?_
            rintro e wbg ⟨A1, cp1, rfl, r1, lo1, bg⟩
            replace c0 := (bg.cell (p := ⟨w.heap.size, 0, none⟩) zb).trans c0
            replace c1 := (bg.cell (p := ⟨w.heap.size, 1, none⟩) zb).trans c1
            replace c2 := (bg.cell (p := ⟨w.heap.size, 2, none⟩) zb).trans c2
            replace c3 := (bg.cell (p := ⟨w.heap.size, 3, none⟩) zb).trans c3
            replace q0 := (bg.cell (p := ⟨w1.heap.size, 0, none⟩) zq).trans q0
            replace q1 := (bg.cell (p := ⟨w1.heap.size, 1, none⟩) zq).trans q1
            replace q2 := (bg.cell (p := ⟨w1.heap.size, 2, none⟩) zq).trans q2
            replace q3 := (bg.cell (p := ⟨w1.heap.size, 3, none⟩) zq).trans q3
            replace zb := Nat.lt_of_lt_of_le zb bg.size
            replace zq := Nat.lt_of_lt_of_le zq bg.size
            replace bw := bw.trans (bg.mono bw.size)
            go_wp2_with fail
            have zp : wbg.heap.size < (wbg.alloc (.cells #[.int .i64 a, .int .i64 b, .int .i64 c, .int .i64 d, .int .i64 (c - a), .slice A1 N cp1] 29)).heap.size := by simp
            have al : Below wbg.heap.size wbg (wbg.alloc (.cells #[.int .i64 a, .int .i64 b, .int .i64 c, .int .i64 d, .int .i64 (c - a), .slice A1 N cp1] 29)) := (Below.refl _ _).alloc (Nat.le_refl _) _
            replace c0 := (al.cell (p := ⟨w.heap.size, 0, none⟩) zb).trans c0
            replace c1 := (al.cell (p := ⟨w.heap.size, 1, none⟩) zb).trans c1
            replace c2 := (al.cell (p := ⟨w.heap.size, 2, none⟩) zb).trans c2
            replace c3 := (al.cell (p := ⟨w.heap.size, 3, none⟩) zb).trans c3
            replace q0 := (al.cell (p := ⟨w1.heap.size, 0, none⟩) zq).trans q0
            replace q1 := (al.cell (p := ⟨w1.heap.size, 1, none⟩) zq).trans q1
            replace q2 := (al.cell (p := ⟨w1.heap.size, 2, none⟩) zq).trans q2
            replace q3 := (al.cell (p := ⟨w1.heap.size, 3, none⟩) zq).trans q3
            have p0 : (wbg.alloc (.cells #[.int .i64 a, .int .i64 b, .int .i64 c, .int .i64 d, .int .i64 (c - a), .slice A1 N cp1] 29)).cell? ⟨wbg.heap.size, 0, none⟩ = some (.int .i64 a) := by simp
            have p1 : (wbg.alloc (.cells #[.int .i64 a, .int .i64 b, .int .i64 c, .int .i64 d, .int .i64 (c - a), .slice A1 N cp1] 29)).cell? ⟨wbg.heap.size, 1, none⟩ = some (.int .i64 b) := by simp
            have p2 : (wbg.alloc (.cells #[.int .i64 a, .int .i64 b, .int .i64 c, .int .i64 d, .int .i64 (c - a), .slice A1 N cp1] 29)).cell? ⟨wbg.heap.size, 2, none⟩ = some (.int .i64 c) := by simp
            have p3 : (wbg.alloc (.cells #[.int .i64 a, .int .i64 b, .int .i64 c, .int .i64 d, .int .i64 (c - a), .slice A1 N cp1] 29)).cell? ⟨wbg.heap.size, 3, none⟩ = some (.int .i64 d) := by simp
            have p4 : (wbg.alloc (.cells #[.int .i64 a, .int .i64 b, .int .i64 c, .int .i64 d, .int .i64 (c - a), .slice A1 N cp1] 29)).cell? ⟨wbg.heap.size, 4, none⟩ = some (.int .i64 (c - a)) := by simp
            have p5 : (wbg.alloc (.cells #[.int .i64 a, .int .i64 b, .int .i64 c, .int .i64 d, .int .i64 (c - a), .slice A1 N cp1] 29)).cell? ⟨wbg.heap.size, 5, none⟩ = some (.slice A1 N cp1) := by simp
            replace zb := Nat.lt_of_lt_of_le zb al.size
            replace zq := Nat.lt_of_lt_of_le zq al.size
            replace bw := bw.trans (al.mono bw.size)
            replace r1 := (r1.below al).more al.size
            clear al
            refine (grayRead_any a b c d N h3 h4 h5 h6 HN.out N cp1 A1 _ x y _ r1).mono ?_
            rintro e wbr ⟨rfl, br⟩
            rw [S2.out]
            replace c0 := (br.cell (p := ⟨w.heap.size, 0, none⟩) zb).trans c0
            replace c1 := (br.cell (p := ⟨w.heap.size, 1, none⟩) zb).trans c1
            replace c2 := (br.cell (p := ⟨w.heap.size, 2, none⟩) zb).trans c2
            replace c3 := (br.cell (p := ⟨w.heap.size, 3, none⟩) zb).trans c3
            replace q0 := (br.cell (p := ⟨w1.heap.size, 0, none⟩) zq).trans q0
            replace q1 := (br.cell (p := ⟨w1.heap.size, 1, none⟩) zq).trans q1
            replace q2 := (br.cell (p := ⟨w1.heap.size, 2, none⟩) zq).trans q2
            replace q3 := (br.cell (p := ⟨w1.heap.size, 3, none⟩) zq).trans q3
            replace zb := Nat.lt_of_lt_of_le zb br.size
            replace zq := Nat.lt_of_lt_of_le zq br.size
            replace bw := bw.trans (br.mono bw.size)
            replace r1 := (r1.below br).more br.size
            replace p0 := (br.cell (p := ⟨wbg.heap.size, 0, none⟩) zp).trans p0
            replace p1 := (br.cell (p := ⟨wbg.heap.size, 1, none⟩) zp).trans p1
            replace p2 := (br.cell (p := ⟨wbg.heap.size, 2, none⟩) zp).trans p2
            replace p3 := (br.cell (p := ⟨wbg.heap.size, 3, none⟩) zp).trans p3
            replace p4 := (br.cell (p := ⟨wbg.heap.size, 4, none⟩) zp).trans p4
            replace p5 := (br.cell (p := ⟨wbg.heap.size, 5, none⟩) zp).trans p5
            replace zp := Nat.lt_of_lt_of_le zp br.size
            go_wp2_with fail
            refine (low_any v1 hv1 _).mono ?_
            rintro e wbl ⟨rfl, rfl⟩
            go_wp2_with fail
            refine wp_region_held_drew (S := (fun w' => w'.cell? ⟨w1.heap.size, 0, none⟩ = some (.int .i64 a) ∧ w'.cell? ⟨w1.heap.size, 1, none⟩ = some (.int .i64 b) ∧ w'.cell? ⟨w1.heap.size, 2, none⟩ = some (.int .i64 c) ∧ w'.cell? ⟨w1.heap.size, 3, none⟩ = some (.int .i64 d) ∧ w'.cell? ⟨wbg.heap.size, 0, none⟩ = some (.int .i64 a) ∧ w'.cell? ⟨wbg.heap.size, 1, none⟩ = some (.int .i64 b) ∧ w'.cell? ⟨wbg.heap.size, 2, none⟩ = some (.int .i64 c) ∧ w'.cell? ⟨wbg.heap.size, 3, none⟩ = some (.int .i64 d) ∧ w'.cell? ⟨wbg.heap.size, 4, none⟩ = some (.int .i64 (c - a)) ∧ w'.cell? ⟨wbg.heap.size, 5, none⟩ = some (.slice A1 N cp1))) (by kernel_rfl) (by go_keep) ?_
            intro hHeld
            refine take_at (i := 0) (D := 51) (v := .int .i64 x) rfl rfl (by kernel_rfl) (by kernel_rfl) (by kernel_rfl) (fun _ _ _ h => h) (Or.inl ⟨by rfl, fun W hSw => by (try dsimp only at hSw); go_simp⟩) (by assumption) ?_
            (try simp only [List.setIfInBounds_toArray, List.set_cons_zero, List.set_cons_succ])
            refine take_at (i := 1) (D := 52) (v := .int .i64 u) rfl rfl (by kernel_rfl) (by kernel_rfl) (by kernel_rfl) (fun _ _ _ h => h) (Or.inl ⟨by rfl, fun W hSw => by (try dsimp only at hSw); go_simp⟩) (by assumption) ?_
            (try simp only [List.setIfInBounds_toArray, List.set_cons_zero, List.set_cons_succ])
            refine take_at (i := 2) (D := 53) (v := .bool false) rfl rfl (by kernel_rfl) (by kernel_rfl) (by kernel_rfl) (fun _ _ _ h => h) (Or.inl ⟨by rfl, fun W hSw => by (try dsimp only at hSw); go_simp⟩) (by assumption) ?_
            (try simp only [List.setIfInBounds_toArray, List.set_cons_zero, List.set_cons_succ])
            refine take_at (i := 3) (D := 54) (v := .bool false) rfl rfl (by kernel_rfl) (by kernel_rfl) (by kernel_rfl) (fun _ _ _ h => h) (Or.inl ⟨by rfl, fun W hSw => by (try dsimp only at hSw); go_simp⟩) (by assumption) ?_
            (try simp only [List.setIfInBounds_toArray, List.set_cons_zero, List.set_cons_succ])
            refine take_at (i := 4) (D := 55) (v := undef) rfl rfl (by kernel_rfl) (by kernel_rfl) (by kernel_rfl) (fun _ _ _ h => h) (Or.inr ⟨by rfl, rfl⟩) (by assumption) ?_
            (try simp only [List.setIfInBounds_toArray, List.set_cons_zero, List.set_cons_succ])
            refine take_at (i := 5) (D := 56) (v := undef) rfl rfl (by kernel_rfl) (by kernel_rfl) (by kernel_rfl) (fun _ _ _ h => h) (Or.inr ⟨by rfl, rfl⟩) (by assumption) ?_
            (try simp only [List.setIfInBounds_toArray, List.set_cons_zero, List.set_cons_succ])
            refine take_at (i := 6) (D := 57) (v := undef) rfl rfl (by kernel_rfl) (by kernel_rfl) (by kernel_rfl) (fun _ _ _ h => h) (Or.inr ⟨by rfl, rfl⟩) (by assumption) ?_
            (try simp only [List.setIfInBounds_toArray, List.set_cons_zero, List.set_cons_succ])
            refine take_at (i := 7) (D := 58) (v := .bool false) rfl rfl (by kernel_rfl) (by kernel_rfl) (by kernel_rfl) (fun _ _ _ h => h) (Or.inl ⟨by rfl, fun W hSw => by (try dsimp only at hSw); go_simp⟩) (by assumption) ?_
            (try simp only [List.setIfInBounds_toArray, List.set_cons_zero, List.set_cons_succ])
            refine take_at (i := 8) (D := 59) (v := .bool false) rfl rfl (by kernel_rfl) (by kernel_rfl) (by kernel_rfl) (fun _ _ _ h => h) (Or.inl ⟨by rfl, fun W hSw => by (try dsimp only at hSw); go_simp⟩) (by assumption) ?_
            (try simp only [List.setIfInBounds_toArray, List.set_cons_zero, List.set_cons_succ])
            refine take_at (i := 9) (D := 60) (v := .agg #[.int .i64 a, .int .i64 b, .int .i64 c, .int .i64 d]) rfl rfl (by kernel_rfl) (by kernel_rfl) (by kernel_rfl) (fun _ _ _ h => h) (Or.inl ⟨by rfl, fun W hSw => by (try dsimp only at hSw); go_simp⟩) (by assumption) ?_
            (try simp only [List.setIfInBounds_toArray, List.set_cons_zero, List.set_cons_succ])
            refine take_at (i := 10) (D := 61) (v := .pointer (some ⟨wbg.heap.size, 5, none⟩)) rfl rfl (by kernel_rfl) (by kernel_rfl) (by kernel_rfl) (fun _ _ _ h => h) (Or.inl ⟨by rfl, fun W hSw => by (try dsimp only at hSw); go_simp⟩) (by assumption) ?_
            (try simp only [List.setIfInBounds_toArray, List.set_cons_zero, List.set_cons_succ])
            refine take_at (i := 11) (D := 62) (v := .slice A1 N cp1) rfl rfl (by kernel_rfl) (by kernel_rfl) (by kernel_rfl) (fun _ _ _ h => h) (Or.inl ⟨by rfl, fun W hSw => by (try dsimp only at hSw); go_simp⟩) (by assumption) ?_
            (try simp only [List.setIfInBounds_toArray, List.set_cons_zero, List.set_cons_succ])
            refine take_at (i := 12) (D := 63) (v := .int .i64 u) rfl rfl (by kernel_rfl) (by kernel_rfl) (by kernel_rfl) (fun _ _ _ h => h) (Or.inl ⟨by rfl, fun W hSw => by (try dsimp only at hSw); go_simp⟩) (by assumption) ?_
            (try simp only [List.setIfInBounds_toArray, List.set_cons_zero, List.set_cons_succ])
            refine take_at (i := 13) (D := 64) (v := .int .i64 v) rfl rfl (by kernel_rfl) (by kernel_rfl) (by kernel_rfl) (fun _ _ _ h => h) (Or.inl ⟨by rfl, fun W hSw => by (try dsimp only at hSw); go_simp⟩) (by assumption) ?_
            (try simp only [List.setIfInBounds_toArray, List.set_cons_zero, List.set_cons_succ])
            refine take_at (i := 15) (D := 66) (v := .agg #[.int .i64 a, .int .i64 b, .int .i64 c, .int .i64 d]) rfl rfl (by kernel_rfl) (by kernel_rfl) (by kernel_rfl) (fun _ _ _ h => h) (Or.inl ⟨by rfl, fun W hSw => by (try dsimp only at hSw); go_simp⟩) (by assumption) ?_
            (try simp only [List.setIfInBounds_toArray, List.set_cons_zero, List.set_cons_succ])
            refine take_at (i := 16) (D := 67) (v := .slice Z n cp) rfl rfl (by kernel_rfl) (by kernel_rfl) (by kernel_rfl) (fun _ _ _ h => h) (Or.inl ⟨by rfl, fun W hSw => by (try dsimp only at hSw); go_simp⟩) (by assumption) ?_
            (try simp only [List.setIfInBounds_toArray, List.set_cons_zero, List.set_cons_succ])
            refine take_at (i := 17) (D := 68) (v := .int .i64 u) rfl rfl (by kernel_rfl) (by kernel_rfl) (by kernel_rfl) (fun _ _ _ h => h) (Or.inl ⟨by rfl, fun W hSw => by (try dsimp only at hSw); go_simp⟩) (by assumption) ?_
            (try simp only [List.setIfInBounds_toArray, List.set_cons_zero, List.set_cons_succ])
            refine take_at (i := 18) (D := 69) (v := .int .i64 v) rfl rfl (by kernel_rfl) (by kernel_rfl) (by kernel_rfl) (fun _ _ _ h => h) (Or.inl ⟨by rfl, fun W hSw => by (try dsimp only at hSw); go_simp⟩) (by assumption) ?_
            (try simp only [List.setIfInBounds_toArray, List.set_cons_zero, List.set_cons_succ])
            refine wpAnyH_ready (rs := [14]) (by kernel_rfl) (by simp) ?_
            refine AllReadyH.cons rfl (fun K hK => ?_) AllReadyH.nil
            go_simp
            refine (grayRead_any a b c d N h3 h4 h5 h6 HN.out N cp1 A1 _ u v _ (by first | exact r1 | exact r1.below (Below.refl _ _).drew)).mono ?_
            rintro e wbs ⟨rfl, bs⟩; (first | have hcbs := bcelld bs | have hcbs := bcellx bs); have zbs0 : w1.heap.size < wbs.heap.size := Nat.lt_of_lt_of_le (by first | assumption | exact zb | exact zq | exact zp | (simp; omega) | simp) bs.size; have zbs1 : wbg.heap.size < wbs.heap.size := Nat.lt_of_lt_of_le (by first | assumption | exact zb | exact zq | exact zp | (simp; omega) | simp) bs.size; have bw : Below w.heap.size w wbs := (by first | exact bw.trans (bs.mono bw.size) | exact bw.drew.trans (bs.mono bw.size))
            refine hK.out _ _ ?_ (fun hHeld => ?_)
            · (try dsimp only); go_keep
            clear hK K
            (try simp only [List.setIfInBounds_toArray, List.set_cons_zero, List.set_cons_succ])
            refine wpAnyH_ready (rs := [19]) (by kernel_rfl) (by simp) ?_
            refine AllReadyH.cons rfl (fun K hK => ?_) AllReadyH.nil
            go_simp
            refine (grayRead_any a b c d N h3 h4 h5 h6 HN.out n cp Z zs u v _ ((HR.out.below bw).more bw.size)).mono ?_
            rintro e wbt ⟨rfl, bt⟩; (first | have hcbt := bcelld bt | have hcbt := bcellx bt); have zbt0 : w1.heap.size < wbt.heap.size := Nat.lt_of_lt_of_le (by first | assumption | exact zb | exact zq | exact zp | (simp; omega) | simp) bt.size; have zbt1 : wbg.heap.size < wbt.heap.size := Nat.lt_of_lt_of_le (by first | assumption | exact zb | exact zq | exact zp | (simp; omega) | simp) bt.size; have bw : Below w.heap.size w wbt := (by first | exact bw.trans (bt.mono bw.size) | exact bw.drew.trans (bt.mono bw.size))
            refine hK.out _ _ ?_ (fun hHeld => ?_)
            · (try dsimp only); go_keep
            clear hK K
            (try simp only [List.setIfInBounds_toArray, List.set_cons_zero, List.set_cons_succ])
            refine take_at (i := 20) (D := 71) (v := .bool true) rfl rfl (by kernel_rfl) (by kernel_rfl) (by kernel_rfl) (fun _ _ _ h => h) (Or.inl ⟨by rfl, fun W hSw => by (try dsimp only at hSw); go_simp⟩) (by assumption) ?_
            (try simp only [List.setIfInBounds_toArray, List.set_cons_zero, List.set_cons_succ])
            refine take_at (i := 21) (D := 72) (v := .bool true) rfl rfl (by kernel_rfl) (by kernel_rfl) (by kernel_rfl) (fun _ _ _ h => h) (Or.inl ⟨by rfl, fun W hSw => by (try dsimp only at hSw); go_simp⟩) (by assumption) ?_
            (try simp only [List.setIfInBounds_toArray, List.set_cons_zero, List.set_cons_succ])
            refine take_at (i := 22) (D := 14) (v := .bool true) rfl rfl (by kernel_rfl) (by kernel_rfl) (by kernel_rfl) (fun _ _ _ h => h) (Or.inl ⟨by rfl, fun W hSw => by (try dsimp only at hSw); go_simp⟩) (by assumption) ?_
            (try simp only [List.setIfInBounds_toArray, List.set_cons_zero, List.set_cons_succ])
            refine wpAnyH_done (by kernel_rfl) ?_ _
            go_wp2
            go_ret
            exact ⟨rfl, bw⟩
          · have HI := Lib.hid hin
            clear hin
            have HJ := Lib.hid hjn
            clear hjn
            clear hN
            go_enter Try.func14, Try.ntmps14
            go_wp2_with fail
            refine (toRect4 _ _ _ _ _).mono ?_
            rintro e w1 ⟨rfl, b1⟩
            have z0 : w.heap.size < w1.heap.size := Nat.lt_of_lt_of_le (by simp) b1.size
            have z1 : w.heap.size < w1.heap.size + 1 := by omega
            have z2 : ¬ w.heap.size = w1.heap.size := by omega
            have z3 : w1.heap.size < w1.heap.size + 1 := by omega
            obtain ⟨hc1, _⟩ := bcell b1
            have c0 : w1.cell? ⟨w.heap.size, 0, none⟩ = some (.int .i64 a) := by rw [hc1 w.heap.size 0 (by simp)]; simp
            have c1 : w1.cell? ⟨w.heap.size, 1, none⟩ = some (.int .i64 b) := by rw [hc1 w.heap.size 1 (by simp)]; simp
            have c2 : w1.cell? ⟨w.heap.size, 2, none⟩ = some (.int .i64 c) := by rw [hc1 w.heap.size 2 (by simp)]; simp
            have c3 : w1.cell? ⟨w.heap.size, 3, none⟩ = some (.int .i64 d) := by rw [hc1 w.heap.size 3 (by simp)]; simp
            have bw0 : Below w.heap.size w w1 := ((Below.refl _ _).alloc (Nat.le_refl _) _).trans (b1.mono (by simp))
            have bw : Below w.heap.size w (w1.alloc (.cells #[.int .i64 a, .int .i64 b, .int .i64 c, .int .i64 d] 26)) := bw0.alloc bw0.size _
            clear hc1 b1
            go_wp2_with fail
            have c0 : (w1.alloc (.cells #[.int .i64 a, .int .i64 b, .int .i64 c, .int .i64 d] 26)).cell? ⟨w.heap.size, 0, none⟩ = some (.int .i64 a) := (World.cell?_alloc_lt w1 _ ⟨w.heap.size, 0, none⟩ z0).trans c0
            have c1 : (w1.alloc (.cells #[.int .i64 a, .int .i64 b, .int .i64 c, .int .i64 d] 26)).cell? ⟨w.heap.size, 1, none⟩ = some (.int .i64 b) := (World.cell?_alloc_lt w1 _ ⟨w.heap.size, 1, none⟩ z0).trans c1
            have c2 : (w1.alloc (.cells #[.int .i64 a, .int .i64 b, .int .i64 c, .int .i64 d] 26)).cell? ⟨w.heap.size, 2, none⟩ = some (.int .i64 c) := (World.cell?_alloc_lt w1 _ ⟨w.heap.size, 2, none⟩ z0).trans c2
            have c3 : (w1.alloc (.cells #[.int .i64 a, .int .i64 b, .int .i64 c, .int .i64 d] 26)).cell? ⟨w.heap.size, 3, none⟩ = some (.int .i64 d) := (World.cell?_alloc_lt w1 _ ⟨w.heap.size, 3, none⟩ z0).trans c3
            have q0 : (w1.alloc (.cells #[.int .i64 a, .int .i64 b, .int .i64 c, .int .i64 d] 26)).cell? ⟨w1.heap.size, 0, none⟩ = some (.int .i64 a) := by simp
            have q1 : (w1.alloc (.cells #[.int .i64 a, .int .i64 b, .int .i64 c, .int .i64 d] 26)).cell? ⟨w1.heap.size, 1, none⟩ = some (.int .i64 b) := by simp
            have q2 : (w1.alloc (.cells #[.int .i64 a, .int .i64 b, .int .i64 c, .int .i64 d] 26)).cell? ⟨w1.heap.size, 2, none⟩ = some (.int .i64 c) := by simp
            have q3 : (w1.alloc (.cells #[.int .i64 a, .int .i64 b, .int .i64 c, .int .i64 d] 26)).cell? ⟨w1.heap.size, 3, none⟩ = some (.int .i64 d) := by simp
            have zb : w.heap.size < (w1.alloc (.cells #[.int .i64 a, .int .i64 b, .int .i64 c, .int .i64 d] 26)).heap.size := by simpa using z1
            have zq : w1.heap.size < (w1.alloc (.cells #[.int .i64 a, .int .i64 b, .int .i64 c, .int .i64 d] 26)).heap.size := by simp
            go_wp2_with fail
            refine (fine_yes _ _ _ _ HF.out _).mono ?_
            rintro e wbf ⟨rfl, bf⟩
            replace c0 := (bf.cell (p := ⟨w.heap.size, 0, none⟩) zb).trans c0
            replace c1 := (bf.cell (p := ⟨w.heap.size, 1, none⟩) zb).trans c1
            replace c2 := (bf.cell (p := ⟨w.heap.size, 2, none⟩) zb).trans c2
            replace c3 := (bf.cell (p := ⟨w.heap.size, 3, none⟩) zb).trans c3
            replace q0 := (bf.cell (p := ⟨w1.heap.size, 0, none⟩) zq).trans q0
            replace q1 := (bf.cell (p := ⟨w1.heap.size, 1, none⟩) zq).trans q1
            replace q2 := (bf.cell (p := ⟨w1.heap.size, 2, none⟩) zq).trans q2
            replace q3 := (bf.cell (p := ⟨w1.heap.size, 3, none⟩) zq).trans q3
            replace zb := Nat.lt_of_lt_of_le zb bf.size
            replace zq := Nat.lt_of_lt_of_le zq bf.size
            replace bw := bw.trans (bf.mono bw.size)
            go_wp2_with fail
            refine (has_yes _ _ _ _ _ _ HI.out _).mono ?_
            rintro e wbh ⟨rfl, bh⟩
            replace c0 := (bh.cell (p := ⟨w.heap.size, 0, none⟩) zb).trans c0
            replace c1 := (bh.cell (p := ⟨w.heap.size, 1, none⟩) zb).trans c1
            replace c2 := (bh.cell (p := ⟨w.heap.size, 2, none⟩) zb).trans c2
            replace c3 := (bh.cell (p := ⟨w.heap.size, 3, none⟩) zb).trans c3
            replace q0 := (bh.cell (p := ⟨w1.heap.size, 0, none⟩) zq).trans q0
            replace q1 := (bh.cell (p := ⟨w1.heap.size, 1, none⟩) zq).trans q1
            replace q2 := (bh.cell (p := ⟨w1.heap.size, 2, none⟩) zq).trans q2
            replace q3 := (bh.cell (p := ⟨w1.heap.size, 3, none⟩) zq).trans q3
            replace zb := Nat.lt_of_lt_of_le zb bh.size
            replace zq := Nat.lt_of_lt_of_le zq bh.size
            replace bw := bw.trans (bh.mono bw.size)
            go_wp2_with fail
            refine (has_yes _ _ _ _ _ _ HJ.out _).mono ?_
            rintro e wbi ⟨rfl, bi⟩
            replace c0 := (bi.cell (p := ⟨w.heap.size, 0, none⟩) zb).trans c0
            replace c1 := (bi.cell (p := ⟨w.heap.size, 1, none⟩) zb).trans c1
            replace c2 := (bi.cell (p := ⟨w.heap.size, 2, none⟩) zb).trans c2
            replace c3 := (bi.cell (p := ⟨w.heap.size, 3, none⟩) zb).trans c3
            replace q0 := (bi.cell (p := ⟨w1.heap.size, 0, none⟩) zq).trans q0
            replace q1 := (bi.cell (p := ⟨w1.heap.size, 1, none⟩) zq).trans q1
            replace q2 := (bi.cell (p := ⟨w1.heap.size, 2, none⟩) zq).trans q2
            replace q3 := (bi.cell (p := ⟨w1.heap.size, 3, none⟩) zq).trans q3
            replace zb := Nat.lt_of_lt_of_le zb bi.size
            replace zq := Nat.lt_of_lt_of_le zq bi.size
            replace bw := bw.trans (bi.mono bw.size)
            go_wp2_with fail
            refine (grayWrite_any a b c d N h3 h4 h5 h6 HN.out n cp Z zs x y v1 _ ((HR.out.below bw).more bw.size)).mono ?_
            rintro e wbg ⟨A1, cp1, rfl, r1, lo1, bg⟩
            replace c0 := (bg.cell (p := ⟨w.heap.size, 0, none⟩) zb).trans c0
            replace c1 := (bg.cell (p := ⟨w.heap.size, 1, none⟩) zb).trans c1
            replace c2 := (bg.cell (p := ⟨w.heap.size, 2, none⟩) zb).trans c2
            replace c3 := (bg.cell (p := ⟨w.heap.size, 3, none⟩) zb).trans c3
            replace q0 := (bg.cell (p := ⟨w1.heap.size, 0, none⟩) zq).trans q0
            replace q1 := (bg.cell (p := ⟨w1.heap.size, 1, none⟩) zq).trans q1
            replace q2 := (bg.cell (p := ⟨w1.heap.size, 2, none⟩) zq).trans q2
            replace q3 := (bg.cell (p := ⟨w1.heap.size, 3, none⟩) zq).trans q3
            replace zb := Nat.lt_of_lt_of_le zb bg.size
            replace zq := Nat.lt_of_lt_of_le zq bg.size
            replace bw := bw.trans (bg.mono bw.size)
            go_wp2_with fail
            have zp : wbg.heap.size < (wbg.alloc (.cells #[.int .i64 a, .int .i64 b, .int .i64 c, .int .i64 d, .int .i64 (c - a), .slice A1 N cp1] 29)).heap.size := by simp
            have al : Below wbg.heap.size wbg (wbg.alloc (.cells #[.int .i64 a, .int .i64 b, .int .i64 c, .int .i64 d, .int .i64 (c - a), .slice A1 N cp1] 29)) := (Below.refl _ _).alloc (Nat.le_refl _) _
            replace c0 := (al.cell (p := ⟨w.heap.size, 0, none⟩) zb).trans c0
            replace c1 := (al.cell (p := ⟨w.heap.size, 1, none⟩) zb).trans c1
            replace c2 := (al.cell (p := ⟨w.heap.size, 2, none⟩) zb).trans c2
            replace c3 := (al.cell (p := ⟨w.heap.size, 3, none⟩) zb).trans c3
            replace q0 := (al.cell (p := ⟨w1.heap.size, 0, none⟩) zq).trans q0
            replace q1 := (al.cell (p := ⟨w1.heap.size, 1, none⟩) zq).trans q1
            replace q2 := (al.cell (p := ⟨w1.heap.size, 2, none⟩) zq).trans q2
            replace q3 := (al.cell (p := ⟨w1.heap.size, 3, none⟩) zq).trans q3
            have p0 : (wbg.alloc (.cells #[.int .i64 a, .int .i64 b, .int .i64 c, .int .i64 d, .int .i64 (c - a), .slice A1 N cp1] 29)).cell? ⟨wbg.heap.size, 0, none⟩ = some (.int .i64 a) := by simp
            have p1 : (wbg.alloc (.cells #[.int .i64 a, .int .i64 b, .int .i64 c, .int .i64 d, .int .i64 (c - a), .slice A1 N cp1] 29)).cell? ⟨wbg.heap.size, 1, none⟩ = some (.int .i64 b) := by simp
            have p2 : (wbg.alloc (.cells #[.int .i64 a, .int .i64 b, .int .i64 c, .int .i64 d, .int .i64 (c - a), .slice A1 N cp1] 29)).cell? ⟨wbg.heap.size, 2, none⟩ = some (.int .i64 c) := by simp
            have p3 : (wbg.alloc (.cells #[.int .i64 a, .int .i64 b, .int .i64 c, .int .i64 d, .int .i64 (c - a), .slice A1 N cp1] 29)).cell? ⟨wbg.heap.size, 3, none⟩ = some (.int .i64 d) := by simp
            have p4 : (wbg.alloc (.cells #[.int .i64 a, .int .i64 b, .int .i64 c, .int .i64 d, .int .i64 (c - a), .slice A1 N cp1] 29)).cell? ⟨wbg.heap.size, 4, none⟩ = some (.int .i64 (c - a)) := by simp
            have p5 : (wbg.alloc (.cells #[.int .i64 a, .int .i64 b, .int .i64 c, .int .i64 d, .int .i64 (c - a), .slice A1 N cp1] 29)).cell? ⟨wbg.heap.size, 5, none⟩ = some (.slice A1 N cp1) := by simp
            replace zb := Nat.lt_of_lt_of_le zb al.size
            replace zq := Nat.lt_of_lt_of_le zq al.size
            replace bw := bw.trans (al.mono bw.size)
            replace r1 := (r1.below al).more al.size
            clear al
            refine (grayRead_any a b c d N h3 h4 h5 h6 HN.out N cp1 A1 _ x y _ r1).mono ?_
            rintro e wbr ⟨rfl, br⟩
            rw [S2.out]
            replace c0 := (br.cell (p := ⟨w.heap.size, 0, none⟩) zb).trans c0
            replace c1 := (br.cell (p := ⟨w.heap.size, 1, none⟩) zb).trans c1
            replace c2 := (br.cell (p := ⟨w.heap.size, 2, none⟩) zb).trans c2
            replace c3 := (br.cell (p := ⟨w.heap.size, 3, none⟩) zb).trans c3
            replace q0 := (br.cell (p := ⟨w1.heap.size, 0, none⟩) zq).trans q0
            replace q1 := (br.cell (p := ⟨w1.heap.size, 1, none⟩) zq).trans q1
            replace q2 := (br.cell (p := ⟨w1.heap.size, 2, none⟩) zq).trans q2
            replace q3 := (br.cell (p := ⟨w1.heap.size, 3, none⟩) zq).trans q3
            replace zb := Nat.lt_of_lt_of_le zb br.size
            replace zq := Nat.lt_of_lt_of_le zq br.size
            replace bw := bw.trans (br.mono bw.size)
            replace r1 := (r1.below br).more br.size
            replace p0 := (br.cell (p := ⟨wbg.heap.size, 0, none⟩) zp).trans p0
            replace p1 := (br.cell (p := ⟨wbg.heap.size, 1, none⟩) zp).trans p1
            replace p2 := (br.cell (p := ⟨wbg.heap.size, 2, none⟩) zp).trans p2
            replace p3 := (br.cell (p := ⟨wbg.heap.size, 3, none⟩) zp).trans p3
            replace p4 := (br.cell (p := ⟨wbg.heap.size, 4, none⟩) zp).trans p4
            replace p5 := (br.cell (p := ⟨wbg.heap.size, 5, none⟩) zp).trans p5
            replace zp := Nat.lt_of_lt_of_le zp br.size
            go_wp2_with fail
            refine (low_any v1 hv1 _).mono ?_
            rintro e wbl ⟨rfl, rfl⟩
            go_wp2_with fail
            refine wp_region_held_drew (S := (fun w' => w'.cell? ⟨w1.heap.size, 0, none⟩ = some (.int .i64 a) ∧ w'.cell? ⟨w1.heap.size, 1, none⟩ = some (.int .i64 b) ∧ w'.cell? ⟨w1.heap.size, 2, none⟩ = some (.int .i64 c) ∧ w'.cell? ⟨w1.heap.size, 3, none⟩ = some (.int .i64 d) ∧ w'.cell? ⟨wbg.heap.size, 0, none⟩ = some (.int .i64 a) ∧ w'.cell? ⟨wbg.heap.size, 1, none⟩ = some (.int .i64 b) ∧ w'.cell? ⟨wbg.heap.size, 2, none⟩ = some (.int .i64 c) ∧ w'.cell? ⟨wbg.heap.size, 3, none⟩ = some (.int .i64 d) ∧ w'.cell? ⟨wbg.heap.size, 4, none⟩ = some (.int .i64 (c - a)) ∧ w'.cell? ⟨wbg.heap.size, 5, none⟩ = some (.slice A1 N cp1))) (by kernel_rfl) (by go_keep) ?_
            intro hHeld
            refine take_at (i := 0) (D := 51) (v := .int .i64 x) rfl rfl (by kernel_rfl) (by kernel_rfl) (by kernel_rfl) (fun _ _ _ h => h) (Or.inl ⟨by rfl, fun W hSw => by (try dsimp only at hSw); go_simp⟩) (by assumption) ?_
            (try simp only [List.setIfInBounds_toArray, List.set_cons_zero, List.set_cons_succ])
            refine take_at (i := 1) (D := 52) (v := .int .i64 u) rfl rfl (by kernel_rfl) (by kernel_rfl) (by kernel_rfl) (fun _ _ _ h => h) (Or.inl ⟨by rfl, fun W hSw => by (try dsimp only at hSw); go_simp⟩) (by assumption) ?_
            (try simp only [List.setIfInBounds_toArray, List.set_cons_zero, List.set_cons_succ])
            refine take_at (i := 2) (D := 53) (v := .bool true) rfl rfl (by kernel_rfl) (by kernel_rfl) (by kernel_rfl) (fun _ _ _ h => h) (Or.inl ⟨by rfl, fun W hSw => by (try dsimp only at hSw); go_simp⟩) (by assumption) ?_
            (try simp only [List.setIfInBounds_toArray, List.set_cons_zero, List.set_cons_succ])
            refine take_at (i := 3) (D := 54) (v := .bool true) rfl rfl (by kernel_rfl) (by kernel_rfl) (by kernel_rfl) (fun _ _ _ h => h) (Or.inl ⟨by rfl, fun W hSw => by (try dsimp only at hSw); go_simp⟩) (by assumption) ?_
            (try simp only [List.setIfInBounds_toArray, List.set_cons_zero, List.set_cons_succ])
            refine take_at (i := 4) (D := 55) (v := .int .i64 y) rfl rfl (by kernel_rfl) (by kernel_rfl) (by kernel_rfl) (fun _ _ _ h => h) (Or.inl ⟨by rfl, fun W hSw => by (try dsimp only at hSw); go_simp⟩) (by assumption) ?_
            (try simp only [List.setIfInBounds_toArray, List.set_cons_zero, List.set_cons_succ])
            refine take_at (i := 5) (D := 56) (v := .int .i64 v) rfl rfl (by kernel_rfl) (by kernel_rfl) (by kernel_rfl) (fun _ _ _ h => h) (Or.inl ⟨by rfl, fun W hSw => by (try dsimp only at hSw); go_simp⟩) (by assumption) ?_
            (try simp only [List.setIfInBounds_toArray, List.set_cons_zero, List.set_cons_succ])
            refine take_at (i := 6) (D := 57) (v := .bool false) rfl rfl (by kernel_rfl) (by kernel_rfl) (by kernel_rfl) (fun _ _ _ h => h) (Or.inl ⟨by rfl, fun W hSw => by (try dsimp only at hSw); go_simp⟩) (by assumption) ?_
            (try simp only [List.setIfInBounds_toArray, List.set_cons_zero, List.set_cons_succ])
            refine take_at (i := 7) (D := 58) (v := .bool false) rfl rfl (by kernel_rfl) (by kernel_rfl) (by kernel_rfl) (fun _ _ _ h => h) (Or.inl ⟨by rfl, fun W hSw => by (try dsimp only at hSw); go_simp⟩) (by assumption) ?_
            (try simp only [List.setIfInBounds_toArray, List.set_cons_zero, List.set_cons_succ])
            refine take_at (i := 8) (D := 59) (v := .bool false) rfl rfl (by kernel_rfl) (by kernel_rfl) (by kernel_rfl) (fun _ _ _ h => h) (Or.inl ⟨by rfl, fun W hSw => by (try dsimp only at hSw); go_simp⟩) (by assumption) ?_
            (try simp only [List.setIfInBounds_toArray, List.set_cons_zero, List.set_cons_succ])
            refine take_at (i := 9) (D := 60) (v := .agg #[.int .i64 a, .int .i64 b, .int .i64 c, .int .i64 d]) rfl rfl (by kernel_rfl) (by kernel_rfl) (by kernel_rfl) (fun _ _ _ h => h) (Or.inl ⟨by rfl, fun W hSw => by (try dsimp only at hSw); go_simp⟩) (by assumption) ?_
            (try simp only [List.setIfInBounds_toArray, List.set_cons_zero, List.set_cons_succ])
            refine take_at (i := 10) (D := 61) (v := .pointer (some ⟨wbg.heap.size, 5, none⟩)) rfl rfl (by kernel_rfl) (by kernel_rfl) (by kernel_rfl) (fun _ _ _ h => h) (Or.inl ⟨by rfl, fun W hSw => by (try dsimp only at hSw); go_simp⟩) (by assumption) ?_
            (try simp only [List.setIfInBounds_toArray, List.set_cons_zero, List.set_cons_succ])
            refine take_at (i := 11) (D := 62) (v := .slice A1 N cp1) rfl rfl (by kernel_rfl) (by kernel_rfl) (by kernel_rfl) (fun _ _ _ h => h) (Or.inl ⟨by rfl, fun W hSw => by (try dsimp only at hSw); go_simp⟩) (by assumption) ?_
            (try simp only [List.setIfInBounds_toArray, List.set_cons_zero, List.set_cons_succ])
            refine take_at (i := 12) (D := 63) (v := .int .i64 u) rfl rfl (by kernel_rfl) (by kernel_rfl) (by kernel_rfl) (fun _ _ _ h => h) (Or.inl ⟨by rfl, fun W hSw => by (try dsimp only at hSw); go_simp⟩) (by assumption) ?_
            (try simp only [List.setIfInBounds_toArray, List.set_cons_zero, List.set_cons_succ])
            refine take_at (i := 13) (D := 64) (v := .int .i64 v) rfl rfl (by kernel_rfl) (by kernel_rfl) (by kernel_rfl) (fun _ _ _ h => h) (Or.inl ⟨by rfl, fun W hSw => by (try dsimp only at hSw); go_simp⟩) (by assumption) ?_
            (try simp only [List.setIfInBounds_toArray, List.set_cons_zero, List.set_cons_succ])
            refine take_at (i := 15) (D := 66) (v := .agg #[.int .i64 a, .int .i64 b, .int .i64 c, .int .i64 d]) rfl rfl (by kernel_rfl) (by kernel_rfl) (by kernel_rfl) (fun _ _ _ h => h) (Or.inl ⟨by rfl, fun W hSw => by (try dsimp only at hSw); go_simp⟩) (by assumption) ?_
            (try simp only [List.setIfInBounds_toArray, List.set_cons_zero, List.set_cons_succ])
            refine take_at (i := 16) (D := 67) (v := .slice Z n cp) rfl rfl (by kernel_rfl) (by kernel_rfl) (by kernel_rfl) (fun _ _ _ h => h) (Or.inl ⟨by rfl, fun W hSw => by (try dsimp only at hSw); go_simp⟩) (by assumption) ?_
            (try simp only [List.setIfInBounds_toArray, List.set_cons_zero, List.set_cons_succ])
            refine take_at (i := 17) (D := 68) (v := .int .i64 u) rfl rfl (by kernel_rfl) (by kernel_rfl) (by kernel_rfl) (fun _ _ _ h => h) (Or.inl ⟨by rfl, fun W hSw => by (try dsimp only at hSw); go_simp⟩) (by assumption) ?_
            (try simp only [List.setIfInBounds_toArray, List.set_cons_zero, List.set_cons_succ])
            refine take_at (i := 18) (D := 69) (v := .int .i64 v) rfl rfl (by kernel_rfl) (by kernel_rfl) (by kernel_rfl) (fun _ _ _ h => h) (Or.inl ⟨by rfl, fun W hSw => by (try dsimp only at hSw); go_simp⟩) (by assumption) ?_
            (try simp only [List.setIfInBounds_toArray, List.set_cons_zero, List.set_cons_succ])
            refine wpAnyH_ready (rs := [14]) (by kernel_rfl) (by simp) ?_
            refine AllReadyH.cons rfl (fun K hK => ?_) AllReadyH.nil
            go_simp
            refine (grayRead_any a b c d N h3 h4 h5 h6 HN.out N cp1 A1 _ u v _ (by first | exact r1 | exact r1.below (Below.refl _ _).drew)).mono ?_
            rintro e wbs ⟨rfl, bs⟩; (first | have hcbs := bcelld bs | have hcbs := bcellx bs); have zbs0 : w1.heap.size < wbs.heap.size := Nat.lt_of_lt_of_le (by first | assumption | exact zb | exact zq | exact zp | (simp; omega) | simp) bs.size; have zbs1 : wbg.heap.size < wbs.heap.size := Nat.lt_of_lt_of_le (by first | assumption | exact zb | exact zq | exact zp | (simp; omega) | simp) bs.size; have bw : Below w.heap.size w wbs := (by first | exact bw.trans (bs.mono bw.size) | exact bw.drew.trans (bs.mono bw.size))
            refine hK.out _ _ ?_ (fun hHeld => ?_)
            · (try dsimp only); go_keep
            clear hK K
            (try simp only [List.setIfInBounds_toArray, List.set_cons_zero, List.set_cons_succ])
            refine wpAnyH_ready (rs := [19]) (by kernel_rfl) (by simp) ?_
            refine AllReadyH.cons rfl (fun K hK => ?_) AllReadyH.nil
            go_simp
            refine (grayRead_any a b c d N h3 h4 h5 h6 HN.out n cp Z zs u v _ ((HR.out.below bw).more bw.size)).mono ?_
            rintro e wbt ⟨rfl, bt⟩; (first | have hcbt := bcelld bt | have hcbt := bcellx bt); have zbt0 : w1.heap.size < wbt.heap.size := Nat.lt_of_lt_of_le (by first | assumption | exact zb | exact zq | exact zp | (simp; omega) | simp) bt.size; have zbt1 : wbg.heap.size < wbt.heap.size := Nat.lt_of_lt_of_le (by first | assumption | exact zb | exact zq | exact zp | (simp; omega) | simp) bt.size; have bw : Below w.heap.size w wbt := (by first | exact bw.trans (bt.mono bw.size) | exact bw.drew.trans (bt.mono bw.size))
            refine hK.out _ _ ?_ (fun hHeld => ?_)
            · (try dsimp only); go_keep
            clear hK K
            (try simp only [List.setIfInBounds_toArray, List.set_cons_zero, List.set_cons_succ])
            refine take_at (i := 20) (D := 71) (v := .bool true) rfl rfl (by kernel_rfl) (by kernel_rfl) (by kernel_rfl) (fun _ _ _ h => h) (Or.inl ⟨by rfl, fun W hSw => by (try dsimp only at hSw); go_simp⟩) (by assumption) ?_
            (try simp only [List.setIfInBounds_toArray, List.set_cons_zero, List.set_cons_succ])
            refine take_at (i := 21) (D := 72) (v := .bool true) rfl rfl (by kernel_rfl) (by kernel_rfl) (by kernel_rfl) (fun _ _ _ h => h) (Or.inl ⟨by rfl, fun W hSw => by (try dsimp only at hSw); go_simp⟩) (by assumption) ?_
            (try simp only [List.setIfInBounds_toArray, List.set_cons_zero, List.set_cons_succ])
            refine take_at (i := 22) (D := 14) (v := .bool true) rfl rfl (by kernel_rfl) (by kernel_rfl) (by kernel_rfl) (fun _ _ _ h => h) (Or.inl ⟨by rfl, fun W hSw => by (try dsimp only at hSw); go_simp⟩) (by assumption) ?_
            (try simp only [List.setIfInBounds_toArray, List.set_cons_zero, List.set_cons_succ])
            refine wpAnyH_done (by kernel_rfl) ?_ _
            go_wp2
            go_ret
            exact ⟨rfl, bw⟩
      · have HI := Lib.hid hin
        clear hin
        have HJ := Lib.hid hjn
        clear hjn
        clear hN
        go_enter Try.func14, Try.ntmps14
        go_wp2_with fail
        refine (toRect4 _ _ _ _ _).mono ?_
        rintro e w1 ⟨rfl, b1⟩
        have z0 : w.heap.size < w1.heap.size := Nat.lt_of_lt_of_le (by simp) b1.size
        have z1 : w.heap.size < w1.heap.size + 1 := by omega
        have z2 : ¬ w.heap.size = w1.heap.size := by omega
        have z3 : w1.heap.size < w1.heap.size + 1 := by omega
        obtain ⟨hc1, _⟩ := bcell b1
        have c0 : w1.cell? ⟨w.heap.size, 0, none⟩ = some (.int .i64 a) := by rw [hc1 w.heap.size 0 (by simp)]; simp
        have c1 : w1.cell? ⟨w.heap.size, 1, none⟩ = some (.int .i64 b) := by rw [hc1 w.heap.size 1 (by simp)]; simp
        have c2 : w1.cell? ⟨w.heap.size, 2, none⟩ = some (.int .i64 c) := by rw [hc1 w.heap.size 2 (by simp)]; simp
        have c3 : w1.cell? ⟨w.heap.size, 3, none⟩ = some (.int .i64 d) := by rw [hc1 w.heap.size 3 (by simp)]; simp
        have bw0 : Below w.heap.size w w1 := ((Below.refl _ _).alloc (Nat.le_refl _) _).trans (b1.mono (by simp))
        have bw : Below w.heap.size w (w1.alloc (.cells #[.int .i64 a, .int .i64 b, .int .i64 c, .int .i64 d] 26)) := bw0.alloc bw0.size _
        clear hc1 b1
        go_wp2_with fail
        have c0 : (w1.alloc (.cells #[.int .i64 a, .int .i64 b, .int .i64 c, .int .i64 d] 26)).cell? ⟨w.heap.size, 0, none⟩ = some (.int .i64 a) := (World.cell?_alloc_lt w1 _ ⟨w.heap.size, 0, none⟩ z0).trans c0
        have c1 : (w1.alloc (.cells #[.int .i64 a, .int .i64 b, .int .i64 c, .int .i64 d] 26)).cell? ⟨w.heap.size, 1, none⟩ = some (.int .i64 b) := (World.cell?_alloc_lt w1 _ ⟨w.heap.size, 1, none⟩ z0).trans c1
        have c2 : (w1.alloc (.cells #[.int .i64 a, .int .i64 b, .int .i64 c, .int .i64 d] 26)).cell? ⟨w.heap.size, 2, none⟩ = some (.int .i64 c) := (World.cell?_alloc_lt w1 _ ⟨w.heap.size, 2, none⟩ z0).trans c2
        have c3 : (w1.alloc (.cells #[.int .i64 a, .int .i64 b, .int .i64 c, .int .i64 d] 26)).cell? ⟨w.heap.size, 3, none⟩ = some (.int .i64 d) := (World.cell?_alloc_lt w1 _ ⟨w.heap.size, 3, none⟩ z0).trans c3
        have q0 : (w1.alloc (.cells #[.int .i64 a, .int .i64 b, .int .i64 c, .int .i64 d] 26)).cell? ⟨w1.heap.size, 0, none⟩ = some (.int .i64 a) := by simp
        have q1 : (w1.alloc (.cells #[.int .i64 a, .int .i64 b, .int .i64 c, .int .i64 d] 26)).cell? ⟨w1.heap.size, 1, none⟩ = some (.int .i64 b) := by simp
        have q2 : (w1.alloc (.cells #[.int .i64 a, .int .i64 b, .int .i64 c, .int .i64 d] 26)).cell? ⟨w1.heap.size, 2, none⟩ = some (.int .i64 c) := by simp
        have q3 : (w1.alloc (.cells #[.int .i64 a, .int .i64 b, .int .i64 c, .int .i64 d] 26)).cell? ⟨w1.heap.size, 3, none⟩ = some (.int .i64 d) := by simp
        have zb : w.heap.size < (w1.alloc (.cells #[.int .i64 a, .int .i64 b, .int .i64 c, .int .i64 d] 26)).heap.size := by simpa using z1
        have zq : w1.heap.size < (w1.alloc (.cells #[.int .i64 a, .int .i64 b, .int .i64 c, .int .i64 d] 26)).heap.size := by simp
        go_wp2_with fail
        refine (fine_yes _ _ _ _ HF.out _).mono ?_
        rintro e wbf ⟨rfl, bf⟩
        replace c0 := (bf.cell (p := ⟨w.heap.size, 0, none⟩) zb).trans c0
        replace c1 := (bf.cell (p := ⟨w.heap.size, 1, none⟩) zb).trans c1
        replace c2 := (bf.cell (p := ⟨w.heap.size, 2, none⟩) zb).trans c2
        replace c3 := (bf.cell (p := ⟨w.heap.size, 3, none⟩) zb).trans c3
        replace q0 := (bf.cell (p := ⟨w1.heap.size, 0, none⟩) zq).trans q0
        replace q1 := (bf.cell (p := ⟨w1.heap.size, 1, none⟩) zq).trans q1
        replace q2 := (bf.cell (p := ⟨w1.heap.size, 2, none⟩) zq).trans q2
        replace q3 := (bf.cell (p := ⟨w1.heap.size, 3, none⟩) zq).trans q3
        replace zb := Nat.lt_of_lt_of_le zb bf.size
        replace zq := Nat.lt_of_lt_of_le zq bf.size
        replace bw := bw.trans (bf.mono bw.size)
        go_wp2_with fail
        refine (has_yes _ _ _ _ _ _ HI.out _).mono ?_
        rintro e wbh ⟨rfl, bh⟩
        replace c0 := (bh.cell (p := ⟨w.heap.size, 0, none⟩) zb).trans c0
        replace c1 := (bh.cell (p := ⟨w.heap.size, 1, none⟩) zb).trans c1
        replace c2 := (bh.cell (p := ⟨w.heap.size, 2, none⟩) zb).trans c2
        replace c3 := (bh.cell (p := ⟨w.heap.size, 3, none⟩) zb).trans c3
        replace q0 := (bh.cell (p := ⟨w1.heap.size, 0, none⟩) zq).trans q0
        replace q1 := (bh.cell (p := ⟨w1.heap.size, 1, none⟩) zq).trans q1
        replace q2 := (bh.cell (p := ⟨w1.heap.size, 2, none⟩) zq).trans q2
        replace q3 := (bh.cell (p := ⟨w1.heap.size, 3, none⟩) zq).trans q3
        replace zb := Nat.lt_of_lt_of_le zb bh.size
        replace zq := Nat.lt_of_lt_of_le zq bh.size
        replace bw := bw.trans (bh.mono bw.size)
        go_wp2_with fail
        refine (has_no _ _ _ _ _ _ HJ.out _).mono ?_
        rintro e wbi ⟨rfl, bi⟩
        replace c0 := (bi.cell (p := ⟨w.heap.size, 0, none⟩) zb).trans c0
        replace c1 := (bi.cell (p := ⟨w.heap.size, 1, none⟩) zb).trans c1
        replace c2 := (bi.cell (p := ⟨w.heap.size, 2, none⟩) zb).trans c2
        replace c3 := (bi.cell (p := ⟨w.heap.size, 3, none⟩) zb).trans c3
        replace q0 := (bi.cell (p := ⟨w1.heap.size, 0, none⟩) zq).trans q0
        replace q1 := (bi.cell (p := ⟨w1.heap.size, 1, none⟩) zq).trans q1
        replace q2 := (bi.cell (p := ⟨w1.heap.size, 2, none⟩) zq).trans q2
        replace q3 := (bi.cell (p := ⟨w1.heap.size, 3, none⟩) zq).trans q3
        replace zb := Nat.lt_of_lt_of_le zb bi.size
        replace zq := Nat.lt_of_lt_of_le zq bi.size
        replace bw := bw.trans (bi.mono bw.size)
        go_wp2_with fail
        go_ret
        exact ⟨rfl, bw⟩
    · have HI := Lib.hid hin
      clear hin hN
      go_enter Try.func14, Try.ntmps14
      go_wp2_with fail
      refine (toRect4 _ _ _ _ _).mono ?_
      rintro e w1 ⟨rfl, b1⟩
      have z0 : w.heap.size < w1.heap.size := Nat.lt_of_lt_of_le (by simp) b1.size
      have z1 : w.heap.size < w1.heap.size + 1 := by omega
      have z2 : ¬ w.heap.size = w1.heap.size := by omega
      have z3 : w1.heap.size < w1.heap.size + 1 := by omega
      obtain ⟨hc1, _⟩ := bcell b1
      have c0 : w1.cell? ⟨w.heap.size, 0, none⟩ = some (.int .i64 a) := by rw [hc1 w.heap.size 0 (by simp)]; simp
      have c1 : w1.cell? ⟨w.heap.size, 1, none⟩ = some (.int .i64 b) := by rw [hc1 w.heap.size 1 (by simp)]; simp
      have c2 : w1.cell? ⟨w.heap.size, 2, none⟩ = some (.int .i64 c) := by rw [hc1 w.heap.size 2 (by simp)]; simp
      have c3 : w1.cell? ⟨w.heap.size, 3, none⟩ = some (.int .i64 d) := by rw [hc1 w.heap.size 3 (by simp)]; simp
      have bw0 : Below w.heap.size w w1 := ((Below.refl _ _).alloc (Nat.le_refl _) _).trans (b1.mono (by simp))
      have bw : Below w.heap.size w (w1.alloc (.cells #[.int .i64 a, .int .i64 b, .int .i64 c, .int .i64 d] 26)) := bw0.alloc bw0.size _
      clear hc1 b1
      go_wp2_with fail
      have c0 : (w1.alloc (.cells #[.int .i64 a, .int .i64 b, .int .i64 c, .int .i64 d] 26)).cell? ⟨w.heap.size, 0, none⟩ = some (.int .i64 a) := (World.cell?_alloc_lt w1 _ ⟨w.heap.size, 0, none⟩ z0).trans c0
      have c1 : (w1.alloc (.cells #[.int .i64 a, .int .i64 b, .int .i64 c, .int .i64 d] 26)).cell? ⟨w.heap.size, 1, none⟩ = some (.int .i64 b) := (World.cell?_alloc_lt w1 _ ⟨w.heap.size, 1, none⟩ z0).trans c1
      have c2 : (w1.alloc (.cells #[.int .i64 a, .int .i64 b, .int .i64 c, .int .i64 d] 26)).cell? ⟨w.heap.size, 2, none⟩ = some (.int .i64 c) := (World.cell?_alloc_lt w1 _ ⟨w.heap.size, 2, none⟩ z0).trans c2
      have c3 : (w1.alloc (.cells #[.int .i64 a, .int .i64 b, .int .i64 c, .int .i64 d] 26)).cell? ⟨w.heap.size, 3, none⟩ = some (.int .i64 d) := (World.cell?_alloc_lt w1 _ ⟨w.heap.size, 3, none⟩ z0).trans c3
      have q0 : (w1.alloc (.cells #[.int .i64 a, .int .i64 b, .int .i64 c, .int .i64 d] 26)).cell? ⟨w1.heap.size, 0, none⟩ = some (.int .i64 a) := by simp
      have q1 : (w1.alloc (.cells #[.int .i64 a, .int .i64 b, .int .i64 c, .int .i64 d] 26)).cell? ⟨w1.heap.size, 1, none⟩ = some (.int .i64 b) := by simp
      have q2 : (w1.alloc (.cells #[.int .i64 a, .int .i64 b, .int .i64 c, .int .i64 d] 26)).cell? ⟨w1.heap.size, 2, none⟩ = some (.int .i64 c) := by simp
      have q3 : (w1.alloc (.cells #[.int .i64 a, .int .i64 b, .int .i64 c, .int .i64 d] 26)).cell? ⟨w1.heap.size, 3, none⟩ = some (.int .i64 d) := by simp
      have zb : w.heap.size < (w1.alloc (.cells #[.int .i64 a, .int .i64 b, .int .i64 c, .int .i64 d] 26)).heap.size := by simpa using z1
      have zq : w1.heap.size < (w1.alloc (.cells #[.int .i64 a, .int .i64 b, .int .i64 c, .int .i64 d] 26)).heap.size := by simp
      go_wp2_with fail
      refine (fine_yes _ _ _ _ HF.out _).mono ?_
      rintro e wbf ⟨rfl, bf⟩
      replace c0 := (bf.cell (p := ⟨w.heap.size, 0, none⟩) zb).trans c0
      replace c1 := (bf.cell (p := ⟨w.heap.size, 1, none⟩) zb).trans c1
      replace c2 := (bf.cell (p := ⟨w.heap.size, 2, none⟩) zb).trans c2
      replace c3 := (bf.cell (p := ⟨w.heap.size, 3, none⟩) zb).trans c3
      replace q0 := (bf.cell (p := ⟨w1.heap.size, 0, none⟩) zq).trans q0
      replace q1 := (bf.cell (p := ⟨w1.heap.size, 1, none⟩) zq).trans q1
      replace q2 := (bf.cell (p := ⟨w1.heap.size, 2, none⟩) zq).trans q2
      replace q3 := (bf.cell (p := ⟨w1.heap.size, 3, none⟩) zq).trans q3
      replace zb := Nat.lt_of_lt_of_le zb bf.size
      replace zq := Nat.lt_of_lt_of_le zq bf.size
      replace bw := bw.trans (bf.mono bw.size)
      go_wp2_with fail
      refine (has_no _ _ _ _ _ _ HI.out _).mono ?_
      rintro e wbh ⟨rfl, bh⟩
      replace c0 := (bh.cell (p := ⟨w.heap.size, 0, none⟩) zb).trans c0
      replace c1 := (bh.cell (p := ⟨w.heap.size, 1, none⟩) zb).trans c1
      replace c2 := (bh.cell (p := ⟨w.heap.size, 2, none⟩) zb).trans c2
      replace c3 := (bh.cell (p := ⟨w.heap.size, 3, none⟩) zb).trans c3
      replace q0 := (bh.cell (p := ⟨w1.heap.size, 0, none⟩) zq).trans q0
      replace q1 := (bh.cell (p := ⟨w1.heap.size, 1, none⟩) zq).trans q1
      replace q2 := (bh.cell (p := ⟨w1.heap.size, 2, none⟩) zq).trans q2
      replace q3 := (bh.cell (p := ⟨w1.heap.size, 3, none⟩) zq).trans q3
      replace zb := Nat.lt_of_lt_of_le zb bh.size
      replace zq := Nat.lt_of_lt_of_le zq bh.size
      replace bw := bw.trans (bh.mono bw.size)
      go_wp2_with fail
      go_ret
      exact ⟨rfl, bw⟩
  · have HF := Lib.hid hf
    clear hf
    go_enter Try.func14, Try.ntmps14
    go_wp2_with fail
    refine (toRect4 _ _ _ _ _).mono ?_
    rintro e w1 ⟨rfl, b1⟩
    have z0 : w.heap.size < w1.heap.size := Nat.lt_of_lt_of_le (by simp) b1.size
    have z1 : w.heap.size < w1.heap.size + 1 := by omega
    have z2 : ¬ w.heap.size = w1.heap.size := by omega
    have z3 : w1.heap.size < w1.heap.size + 1 := by omega
    obtain ⟨hc1, _⟩ := bcell b1
    have c0 : w1.cell? ⟨w.heap.size, 0, none⟩ = some (.int .i64 a) := by rw [hc1 w.heap.size 0 (by simp)]; simp
    have c1 : w1.cell? ⟨w.heap.size, 1, none⟩ = some (.int .i64 b) := by rw [hc1 w.heap.size 1 (by simp)]; simp
    have c2 : w1.cell? ⟨w.heap.size, 2, none⟩ = some (.int .i64 c) := by rw [hc1 w.heap.size 2 (by simp)]; simp
    have c3 : w1.cell? ⟨w.heap.size, 3, none⟩ = some (.int .i64 d) := by rw [hc1 w.heap.size 3 (by simp)]; simp
    have bw0 : Below w.heap.size w w1 := ((Below.refl _ _).alloc (Nat.le_refl _) _).trans (b1.mono (by simp))
    have bw : Below w.heap.size w (w1.alloc (.cells #[.int .i64 a, .int .i64 b, .int .i64 c, .int .i64 d] 26)) := bw0.alloc bw0.size _
    clear hc1 b1
    go_wp2_with fail
    have c0 : (w1.alloc (.cells #[.int .i64 a, .int .i64 b, .int .i64 c, .int .i64 d] 26)).cell? ⟨w.heap.size, 0, none⟩ = some (.int .i64 a) := (World.cell?_alloc_lt w1 _ ⟨w.heap.size, 0, none⟩ z0).trans c0
    have c1 : (w1.alloc (.cells #[.int .i64 a, .int .i64 b, .int .i64 c, .int .i64 d] 26)).cell? ⟨w.heap.size, 1, none⟩ = some (.int .i64 b) := (World.cell?_alloc_lt w1 _ ⟨w.heap.size, 1, none⟩ z0).trans c1
    have c2 : (w1.alloc (.cells #[.int .i64 a, .int .i64 b, .int .i64 c, .int .i64 d] 26)).cell? ⟨w.heap.size, 2, none⟩ = some (.int .i64 c) := (World.cell?_alloc_lt w1 _ ⟨w.heap.size, 2, none⟩ z0).trans c2
    have c3 : (w1.alloc (.cells #[.int .i64 a, .int .i64 b, .int .i64 c, .int .i64 d] 26)).cell? ⟨w.heap.size, 3, none⟩ = some (.int .i64 d) := (World.cell?_alloc_lt w1 _ ⟨w.heap.size, 3, none⟩ z0).trans c3
    have q0 : (w1.alloc (.cells #[.int .i64 a, .int .i64 b, .int .i64 c, .int .i64 d] 26)).cell? ⟨w1.heap.size, 0, none⟩ = some (.int .i64 a) := by simp
    have q1 : (w1.alloc (.cells #[.int .i64 a, .int .i64 b, .int .i64 c, .int .i64 d] 26)).cell? ⟨w1.heap.size, 1, none⟩ = some (.int .i64 b) := by simp
    have q2 : (w1.alloc (.cells #[.int .i64 a, .int .i64 b, .int .i64 c, .int .i64 d] 26)).cell? ⟨w1.heap.size, 2, none⟩ = some (.int .i64 c) := by simp
    have q3 : (w1.alloc (.cells #[.int .i64 a, .int .i64 b, .int .i64 c, .int .i64 d] 26)).cell? ⟨w1.heap.size, 3, none⟩ = some (.int .i64 d) := by simp
    have zb : w.heap.size < (w1.alloc (.cells #[.int .i64 a, .int .i64 b, .int .i64 c, .int .i64 d] 26)).heap.size := by simpa using z1
    have zq : w1.heap.size < (w1.alloc (.cells #[.int .i64 a, .int .i64 b, .int .i64 c, .int .i64 d] 26)).heap.size := by simp
    go_wp2_with fail
    refine (fine_no _ _ _ _ ha hb hc hd HF.out _).mono ?_
    rintro e wbf ⟨rfl, bf⟩
    go_wp2_with fail
    go_ret
    exact ⟨rfl, bw.trans (bf.mono bw.size)⟩

end Go.Proofs.Ytpijljokcoocpaa

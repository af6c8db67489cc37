/-
  Contracts: the reference's write to an NRGBA image. No condition.
-/
import Derived.Test.YtkhofahobcegiaaNS3
namespace Go.Proofs.Ytkhofahobcegiaa
open Go.ChangeShapes Go.WideShapes Go.ChangeAt Go.RowKit
set_option linter.unusedVariables false
set_option linter.unusedSimpArgs false

/-- Numbers put one behind the other, modulo 256. -/
def puts (bs : List Int) (o : Nat) : List Int → List Int
  | [] => bs
  | c :: cs => puts (bs.set o (c % 256)) (o + 1) cs
theorem puts_snoc (bs : List Int) (o : Nat) (cs : List Int) (c : Int) : puts bs o (cs ++ [c]) = (puts bs o cs).set (o + cs.length) (c % 256) := by
  induction cs generalizing bs o with
  | nil => simp [puts]
  | cons x cs ih => simp only [List.cons_append, puts, ih, List.length_cons]; congr 1; omega
theorem puts_length (bs : List Int) (o : Nat) (cs : List Int) : (puts bs o cs).length = bs.length := by
  induction cs generalizing bs o with
  | nil => rfl
  | cons x cs ih => simp [puts, ih]

set_option maxRecDepth 100000 in
theorem paint_in (a b c d p q r s st x y : Int) (g N o m cp : Nat) (Z : Option Addr) (bs cs : List Int) (w : World) (hin : In p q r s x y) (hp : IPix w g bs) (hl : bs.length = N) (hN : N ≤ 4000000) (hr : Rd w w.heap.size Z m cs) (hm : m ≤ 4) (hg : ∀ b o, Z = some ⟨b, o, none⟩ → b ≠ g)
    (h1 : 0 ≤ y - b) (h2 : y - b ≤ 1000) (h3 : 0 ≤ x - a) (h4 : x - a ≤ 1000) (h5 : 0 ≤ st) (h6 : st ≤ 4000) (ho : (y - b) * st + (x - a) * m = o) (hoN : o + m ≤ N) :
    Calls Try.prog 64 #[.agg #[.int .i64 a, .int .i64 b, .int .i64 c, .int .i64 d, .int .i64 st, .slice (some ⟨g, 0, none⟩) N N], .agg #[.int .i64 p, .int .i64 q, .int .i64 r, .int .i64 s], .int .i64 x, .int .i64 y, .slice Z m cp] w
      fun e w' => e = .returned (.tuple #[]) ∧ IPix w' g (puts bs o cs) ∧ w.grownBy w' (some g) := by
  have HIN := Lib.hid hin
  have HO := Lib.hid ho
  have HR := Lib.hid hr
  have HP := Lib.hid hp
  have HG := Lib.hid hg
  have HL := Lib.hid hl
  have lg := hp.lt
  clear hin ho hr hp hg hl
  have b0 : Below w.heap.size w ((w.alloc (.cells #[.int .i64 a, .int .i64 b, .int .i64 c, .int .i64 d, .int .i64 st, .slice (some ⟨g, 0, none⟩) N N] 37)).alloc (.cells #[.int .i64 p, .int .i64 q, .int .i64 r, .int .i64 s] 25)) := ((Below.refl _ _).alloc (Nat.le_refl _) _).alloc (by simp) _
  have p6 := Lib.hid (show PBlk ((w.alloc (.cells #[.int .i64 a, .int .i64 b, .int .i64 c, .int .i64 d, .int .i64 st, .slice (some ⟨g, 0, none⟩) N N] 37)).alloc (.cells #[.int .i64 p, .int .i64 q, .int .i64 r, .int .i64 s] 25)) w.heap.size a b c d st (.slice (some ⟨g, 0, none⟩) N N) from (Below.heap_alloc _ _ _ (by simp)).trans (heap_alloc_new w _))
  go_enter Try.func64, Try.ntmps64
  go_wp2_with fail
  refine (sHas_yes _ _ _ _ _ _ HIN.out _).mono ?_
  rintro e w1 ⟨rfl, b1⟩
  have bw1 : Below w.heap.size w w1 := b0.trans (b1.mono b0.size)
  have p7 : PBlk w1 w.heap.size a b c d st (.slice (some ⟨g, 0, none⟩) N N) := (b1.block _ (by simp; omega)).trans p6.out
  obtain ⟨s0, s1, s2, s3, s4, s5⟩ := p7.cell
  have P7 := Lib.hid p7
  clear p7 p6
  go_wp2_with fail
  refine (place_any _ _ _ _ _ _ _ _ (o : Int) h1 h2 h3 h4 h5 h6 (by omega) (by omega) HO.out _).mono ?_
  rintro e w2 ⟨rfl, b2⟩
  have bw2 : Below w.heap.size w w2 := bw1.trans (b2.mono bw1.size)
  have P8 := Lib.hid (show PBlk w2 w.heap.size a b c d st (.slice (some ⟨g, 0, none⟩) N N) from (b2.block _ P7.out.lt).trans P7.out)
  have HP2 := Lib.hid (HP.out.below bw2)
  clear s0 s1 s2 s3 s4 s5 b0 b1 b2 HP P7
  go_wp2_with fail
  have G2 := Lib.hid (show w.grownBy w2 (some g) from ⟨bw2.os, bw2.tape, bw2.output, bw2.size, fun i hi _ => bw2.block i hi⟩)
  clear bw1 bw2
  go_loopw [29, 11, 12] (fun i _ _ wr => ∃ (k : Nat), k ≤ m ∧ i = .int .i64 k ∧ Hid (IPix wr g (puts bs o (cs.take k))) ∧ Hid (PBlk wr w.heap.size a b c d st (.slice (some ⟨g, 0, none⟩) N N)) ∧ Hid (w.grownBy wr (some g))) (fun i _ _ _ => m - (intOf i).toNat)
  case atStart => exact ⟨0, by omega, rfl, HP2, P8, G2⟩
  case round =>
    obtain ⟨k, hk, rfl, HK, HQ, HGR⟩ := hrel
    by_cases hlt : k < m
    · obtain ⟨hcl, _, hci, hcc⟩ := HR.out
      obtain ⟨zb, zo, rfl, hzb, hcell⟩ := hcc (by omega)
      have zne := HG.out zb zo rfl
      have x1 : wr.cell? ⟨zb, zo + k, none⟩ = some (.int .i64 (cs.getD k 0)) := (World.cell?_of_block (HGR.out.block zb hzb (by intro e; injection e with e; exact zne e))).trans (hcell k hlt)
      have xz : I64 (cs.getD k 0) := hci _ (by simp [List.getD, show k < cs.length by omega])
      have HT := Lib.hid (take_snoc cs k (by omega))
      have HTL := Lib.hid (show (cs.take k).length = k by simp; omega)
      generalize cs.getD k 0 = z at x1 xz HT
      have x2 := HK.out.cell (i := o + k) (by rw [puts_length, HL.out]; omega)
      have x3 := HK.out.free (o + k)
      generalize hv : (puts bs o (cs.take k)).getD (o + k) 0 = v0 at x2
      obtain ⟨_, _, _, _, _, s5⟩ := HQ.out.cell
      clear hv hcell hcc hci hcl
      have e1 : IntKind.i64.wrap ((o : Int) + (k : Int)) = (o : Int) + (k : Int) := IntWalk.i64_in _ ⟨by omega, by omega⟩
      have e2 : ((o : Int) + (k : Int)).toNat = o + k := by omega
      have e3 : 0 ≤ (o : Int) + (k : Int) := by omega
      have e4 : (o : Int) + (k : Int) < (N : Int) := by omega
      go_wp2_with fail
      refine region_tail 8 (by kernel_rfl) (by kernel_rfl) ?_
      simp only [List.take_succ_cons, List.take_zero, List.drop_succ_cons, List.drop_zero]
      repeat (first | still_step | still_call (slow_same _ xz _))
      refine wpStill_nil ?_
      clear e1 e2
      go_wp2
      go_roundw
      case rel =>
        refine ⟨k + 1, by omega, by go_num, ?_, ?_, ?_⟩
        · have := IPix.set (w := wr.drew) HK.out (o + k) (z % 256) (by omega) (by omega)
          rw [HT.out, puts_snoc, HTL.out]
          exact this
        · have hne : w.heap.size ≠ g := by omega
          exact (Below.heap_setCell _ _ _ _ hne).trans HQ.out
        · have hg := HGR.out
          exact ⟨hg.os, hg.tape, hg.output, by simpa [World.setCell] using hg.size, fun i hi hne => (Below.heap_setCell _ _ _ i (by rintro rfl; exact hne rfl)).trans (hg.block i hi hne)⟩
      case measure => simp [intOf]; omega
    · obtain rfl : k = m := by omega
      go_wp2
      go_end0
      refine ⟨rfl, ?_, HGR.out⟩
      have := HK.out
      rw [List.take_of_length_le (by have := HR.out.1; omega)] at this
      exact this

theorem paint_out (v0 v1 v2 v3 v4 v5 : Value) (p q r s x y : Int) (V : Value) (w : World) (hin : ¬ In p q r s x y) :
    Calls Try.prog 64 #[.agg #[v0, v1, v2, v3, v4, v5], .agg #[.int .i64 p, .int .i64 q, .int .i64 r, .int .i64 s], .int .i64 x, .int .i64 y, V] w
      fun e w' => e = .returned (.tuple #[]) ∧ Below w.heap.size w w' := by
  have HIN := Lib.hid hin
  clear hin
  go_enter Try.func64, Try.ntmps64
  go_wp2_with fail
  refine (sHas_no _ _ _ _ _ _ HIN.out _).mono ?_
  rintro e w1 ⟨rfl, b1⟩
  go_wp2_with fail
  exact bodyPost_ret (results_none rfl _ _ _) rfl ⟨rfl, (((Below.refl _ _).alloc (Nat.le_refl _) _).alloc (by simp) _).trans (b1.mono (by simp; omega))⟩

theorem puts4 (bs : List Int) (o : Nat) (q : Q4) : puts bs o [q.a, q.b, q.c, q.d] = put4 bs o q := rfl

theorem paint_nrgba (x y : Int) (q : Q4) (hq : q.ok) (g g1 cp : Nat) (a b c d : Int) (N : Nat) (h3 : 0 ≤ c - a) (h4 : c - a ≤ 1000) (h5 : 0 ≤ d - b) (h6 : d - b ≤ 1000) (hN : 4 * (c - a) * (d - b) = N) (bs : List Int) (w : World) (hp : IPix w g bs) (hl : bs.length = N) (hb : w.heap[g1]? = some (.cells #[.int .i64 q.a, .int .i64 q.b, .int .i64 q.c, .int .i64 q.d] 3 (0, 0))) (hne : g1 ≠ g) :
    Calls Try.prog 64 #[.agg #[.int .i64 a, .int .i64 b, .int .i64 c, .int .i64 d, .int .i64 (4 * (c - a)), .slice (some ⟨g, 0, none⟩) N N], .agg #[.int .i64 a, .int .i64 b, .int .i64 c, .int .i64 d], .int .i64 x, .int .i64 y, .slice (some ⟨g1, 0, none⟩) 4 cp] w
      fun e w' => e = .returned (.tuple #[]) ∧ IPix w' g (wrAt bs a b c d x y q) ∧ w.grownBy w' (some g) := by
  have kN := area_le h3 h4 h5 h6 hN
  by_cases hin : In a b c d x y
  · obtain ⟨o, ho, hoN⟩ := place_lt hN hin
    rw [wrAt_in hin ho, ← puts4]
    have rd : Rd w w.heap.size (some ⟨g1, 0, none⟩) 4 [q.a, q.b, q.c, q.d] := by
      obtain ⟨q1, q2, q3, q4⟩ := hq
      refine ⟨rfl, by omega, ?_, fun _ => ⟨g1, 0, rfl, lt_of_block hb, fun j hj => ?_⟩⟩
      · intro z hz
        simp at hz
        rcases hz with rfl | rfl | rfl | rfl <;> assumption
      · have c := fun i => cell_of_row w g1 i _ _ (0, 0) hb
        match j, hj with
        | 0, _ => exact c 0
        | 1, _ => exact c 1
        | 2, _ => exact c 2
        | 3, _ => exact c 3
    obtain ⟨i1, i2, i3, i4⟩ := hin
    exact paint_in a b c d a b c d (4 * (c - a)) x y g N o 4 cp _ bs [q.a, q.b, q.c, q.d] w ⟨i1, i2, i3, i4⟩ hp hl (by omega) rd (by omega) (fun b' o' h => by injection h with h; injection h with h; omega) (by omega) (by omega) (by omega) (by omega) (by omega) (by omega) ho hoN
  · rw [wrAt_out hin]
    exact (paint_out _ _ _ _ _ _ a b c d x y _ w hin).mono fun e w' ⟨h, hb⟩ => ⟨h, hp.below hb, ⟨hb.os, hb.tape, hb.output, hb.size, fun i hi _ => hb.block i hi⟩⟩

set_option maxRecDepth 100000 in
theorem snrgbaWrite_any (a b c d : Int) (N : Nat) (h3 : 0 ≤ c - a) (h4 : c - a ≤ 1000) (h5 : 0 ≤ d - b) (h6 : d - b ≤ 1000) (hN : 4 * (c - a) * (d - b) = N) (n cp : Nat) (Z : Option Addr) (zs : List Int) (x y : Int) (q : Q4) (hq : q.ok) (w : World) (hr : Rd w w.heap.size Z n zs) :
    Calls Try.prog 39 #[.agg #[.int .i64 a, .int .i64 b, .int .i64 c, .int .i64 d], .slice Z n cp, .int .i64 x, .int .i64 y, .agg #[.int .i64 q.a, .int .i64 q.b, .int .i64 q.c, .int .i64 q.d]] w (PicOut a b c d (4 * (c - a)) N (wrAt (byt N zs) a b c d x y q) w) := by
  have kN := area_le h3 h4 h5 h6 hN
  have HN := Lib.hid hN
  have HR := Lib.hid hr
  have HQ := Lib.hid hq
  clear hN hr hq
  have b0 : Below w.heap.size w (((w.alloc (.cells #[.int .i64 a, .int .i64 b, .int .i64 c, .int .i64 d] 25)).alloc (.cells #[.int .i64 q.a, .int .i64 q.b, .int .i64 q.c, .int .i64 q.d] 32)).alloc (.cells #[.int .i64 0, .int .i64 0, .int .i64 0, .int .i64 0, .int .i64 0, .slice none 0 0] 37)) := bsa (bsa (bsa (Below.refl _ _)))
  have p6 := Lib.hid (show PBlk (((w.alloc (.cells #[.int .i64 a, .int .i64 b, .int .i64 c, .int .i64 d] 25)).alloc (.cells #[.int .i64 q.a, .int .i64 q.b, .int .i64 q.c, .int .i64 q.d] 32)).alloc (.cells #[.int .i64 0, .int .i64 0, .int .i64 0, .int .i64 0, .int .i64 0, .slice none 0 0] 37)) (w.heap.size + 2) 0 0 0 0 0 (.slice none 0 0) from heap_new3 w _ _ _)
  have kq := Lib.hid (show (((w.alloc (.cells #[.int .i64 a, .int .i64 b, .int .i64 c, .int .i64 d] 25)).alloc (.cells #[.int .i64 q.a, .int .i64 q.b, .int .i64 q.c, .int .i64 q.d] 32)).alloc (.cells #[.int .i64 0, .int .i64 0, .int .i64 0, .int .i64 0, .int .i64 0, .slice none 0 0] 37)).heap[w.heap.size + 1]? = some (.cells #[.int .i64 q.a, .int .i64 q.b, .int .i64 q.c, .int .i64 q.d] 32 (0, 0)) from bka (heap_new2 w _ _))
  have kb := Lib.hid (show (((w.alloc (.cells #[.int .i64 a, .int .i64 b, .int .i64 c, .int .i64 d] 25)).alloc (.cells #[.int .i64 q.a, .int .i64 q.b, .int .i64 q.c, .int .i64 q.d] 32)).alloc (.cells #[.int .i64 0, .int .i64 0, .int .i64 0, .int .i64 0, .int .i64 0, .slice none 0 0] 37)).heap[w.heap.size]? = some (.cells #[.int .i64 a, .int .i64 b, .int .i64 c, .int .i64 d] 25 (0, 0)) from bka (bka (heap_alloc_new w _)))
  go_enter Try.func39, Try.ntmps39
  go_wp2_with fail
  refine (made_nrgba a b c d N h3 h4 h5 h6 HN.out n cp Z zs _ ((HR.out.below b0).more b0.size)).mono ?_
  rintro e w1 ⟨g, rfl, hg, hp, b1⟩
  have zg : w.heap.size + 3 ≤ g := by simpa using hg
  have lg := hp.lt
  have bw1 := Go.Proofs.Ytkhofahobcegiaa.bs b1 b0
  obtain ⟨⟨t0, t1, t2, t3⟩, _⟩ := q4c (bk b1 kq.out)
  obtain ⟨⟨c0, c1, c2, c3⟩, _⟩ := q4c (bk b1 kb.out)
  have P6 := Lib.hid (show PBlk w1 (w.heap.size + 2) 0 0 0 0 0 (.slice none 0 0) from bk b1 p6.out)
  have HP := Lib.hid hp
  have l1 : w.heap.size + 2 < w1.heap.size := P6.out.lt
  have l2 : w.heap.size < w1.heap.size := by omega
  have l3 : w.heap.size + 1 < w1.heap.size := by omega
  clear hp p6 b1 hg b0 kq kb
  go_wp2_with fail
  have HP2 := Lib.hid (show IPix ((w1.alloc (.cells #[.int .i64 a, .int .i64 b, .int .i64 c, .int .i64 d, .int .i64 (4 * (c - a)), .slice (some ⟨g, 0, none⟩) N N] 37)).alloc (.cells #[.int .i64 q.a, .int .i64 q.b, .int .i64 q.c, .int .i64 q.d] 3)) g (byt N zs) from HP.out.below (((Below.refl _ _).alloc (Nat.le_refl _) _).alloc (by simp) _))
  refine (paint_nrgba x y q HQ.out g (w1.heap.size + 1) 4 a b c d N h3 h4 h5 h6 HN.out (byt N zs) _ HP2.out (byt_length _ _) (heap_new2 w1 _ _) (by omega)).mono ?_
  rintro e w2 ⟨rfl, hp2, hg2⟩
  have q6 : PBlk w2 (w.heap.size + 2) 0 0 0 0 0 (.slice none 0 0) := (hg2.block _ (by simp; omega) (by intro e; injection e with e; omega)).trans (bka (bka P6.out))
  have q7 : PBlk w2 w1.heap.size a b c d (4 * (c - a)) (.slice (some ⟨g, 0, none⟩) N N) := (hg2.block _ (by simp; omega) (by intro e; injection e with e; omega)).trans (bka (heap_alloc_new w1 _))
  have bw2 : Below w.heap.size w w2 := ((bw1.alloc bw1.size _).alloc (by have := bw1.size; simp; omega) _).grown hg2 (by have := bw1.size; simp; omega) (by intro k hk; injection hk with hk; omega)
  obtain ⟨⟨s0, s1, s2, s3, s4, s5⟩, g0, g1, g2, g3, g4, g5⟩ := q6c q6
  obtain ⟨⟨t0, t1, t2, t3, t4, t5⟩, _⟩ := q6c q7
  have HP3 := Lib.hid hp2
  have BW := Lib.hid bw2
  clear hp2 hg2 q6 q7 c0 c1 c2 c3 bw2 bw1 HP2 P6
  go_wp2
  refine bodyPost_ret (v := .agg #[.int .i64 a, .int .i64 b, .int .i64 c, .int .i64 d, .int .i64 (4 * (c - a)), .slice (some ⟨g, 0, none⟩) N N]) (by simp [results, Try.results39, go_sem, s0, s1, s2, s3, s4, s5]) rfl ?_
  exact (made_set HP3.out (by omega) (by omega) BW.out (by omega)).pic (by rw [wrAt_length, byt_length]) (by omega)

end Go.Proofs.Ytkhofahobcegiaa

/-
  Contract: a script by the reference, on a gray image. No condition.
-/
import Derived.Test.YtpijljokcoocpaaSR4
import Derived.Deep.AppendLies
namespace Go.Proofs.Ytpijljokcoocpaa
open Go.ChangeShapes Go.WideShapes Go.ChangeAt Go.RowKit
set_option linter.unusedVariables false
set_option linter.unusedSimpArgs false

theorem ints_snoc (l : List Int) (z : Int) : ints (l ++ [z]) = ints l ++ [.int .i64 z] := by simp [ints]

set_option maxRecDepth 100000 in
set_option maxHeartbeats 4000000 in
theorem sgrayRun_any (a b c d : Int) (N : Nat) (h3 : 0 ≤ c - a) (h4 : c - a ≤ 1000) (h5 : 0 ≤ d - b) (h6 : d - b ≤ 1000) (hN : (c - a) * (d - b) = N) (n cp : Nat) (Z : Option Addr) (zs : List Int) (m cs : Nat) (S : Option Addr) (ss : List Stp) (w : World) (hr : Rd w w.heap.size Z n zs) (hs : RdSteps w w.heap.size S m ss) :
    Calls Try.prog 45 #[.agg #[.int .i64 a, .int .i64 b, .int .i64 c, .int .i64 d], .slice Z n cp, .slice S m cs] w (RunOut a b c d N (grun ⟨a, b, c, d⟩ (gini ⟨a, b, c, d⟩ (byt N zs)) ss) w) := by
  have kN := area_le h3 h4 h5 h6 hN
  have HN := Lib.hid hN
  have HR := Lib.hid hr
  have HS := Lib.hid hs
  have hm88 : m * 88 ≤ 140737488355328 := hs.2.1
  have hlen := grun_len ⟨a, b, c, d⟩ (gini ⟨a, b, c, d⟩ (byt N zs)) ss
  have GK := Lib.hid ((gini_ok ⟨a, b, c, d⟩ N zs).run ss)
  have hsl := hs.1
  have hcs : (grun ⟨a, b, c, d⟩ (gini ⟨a, b, c, d⟩ (byt N zs)) ss).cs.length ≤ m := by have := hlen.1; have e : (gini ⟨a, b, c, d⟩ (byt N zs)).cs.length = 0 := rfl; omega
  have hos : (grun ⟨a, b, c, d⟩ (gini ⟨a, b, c, d⟩ (byt N zs)) ss).os.length ≤ m := by have := hlen.2; have e : (gini ⟨a, b, c, d⟩ (byt N zs)).os.length = 0 := rfl; omega
  have X := Lib.hid (fun w0 hr hs => srun_any a b c d N h3 h4 h5 h6 hN n cp Z zs m cs S ss w0 hr hs)
  clear hN hr hs hlen hsl
  generalize grun ⟨a, b, c, d⟩ (gini ⟨a, b, c, d⟩ (byt N zs)) ss = g at X GK hcs hos ⊢
  obtain ⟨i0, hi, hz0, hz1, hz2⟩ := info_parts (show (Try.prog.info? 3).map (fun i => (i.zero, i.size, i.bytes)) = some (some (.int .i64 0), 1, 8) from by kernel_rfl)
  have b0 : Below w.heap.size w ((w.alloc (.cells #[.int .i64 a, .int .i64 b, .int .i64 c, .int .i64 d] 26)).alloc (.cells #[.int .i64 0, .int .i64 0, .int .i64 0, .int .i64 0, .int .i64 0, .slice none 0 0] 29)) := bsa (bsa (Below.refl _ _))
  go_enter Try.func45, Try.ntmps45
  go_wp2_with fail
  refine (X.out _ ((HR.out.below b0).more b0.size) ((HS.out.below b0).more b0.size)).mono ?_
  rintro e w1 ⟨base, Vc, cc, vs, Vo, co, os, pb, rfl, own, row, ro, olen, oin, pix, loo, lpb, lbase, b1⟩
  have bw1 := bst b1 b0
  have k_z := bk b1 (heap_new2 w _ _)
  have hw1 : w.heap.size + 2 ≤ w1.heap.size := by have := b1.size; simpa using this
  have hlo : w.heap.size + 2 ≤ pb := by simpa using lpb
  have hoo : ∀ b o, Vo = some ⟨b, o, none⟩ → w.heap.size + 2 ≤ b := fun b o h => by have := loo b o h; simpa using this
  have OWN := Lib.hid own
  have ROW := Lib.hid row
  have FACTS := Lib.hid (show _ from And.intro ro (And.intro olen (And.intro oin (And.intro pix (And.intro bw1 k_z)))))
  have hosl : os.length ≤ m := by omega
  have hoo' := Lib.hid hoo
  clear own row ro olen oin pix loo lpb b1 b0 bw1 k_z X lbase hoo
  go_wp2_with fail
  obtain ⟨W, ga, hW, hga⟩ : ∃ W g, W = w1.alloc (.cells #[.int .i64 a, .int .i64 b, .int .i64 c, .int .i64 d, .int .i64 (c - a), .slice (some ⟨pb, 0, none⟩) N N] 29) ∧ g = w1.heap.size := ⟨_, _, rfl, rfl⟩
  rw [← hW, ← hga]
  have k_a : W.heap[ga]? = some (.cells #[.int .i64 a, .int .i64 b, .int .i64 c, .int .i64 d, .int .i64 (c - a), .slice (some ⟨pb, 0, none⟩) N N] 29 (0, 0)) := by rw [hW, hga]; exact heap_alloc_new w1 _
  have bW : Below w1.heap.size w1 W := by rw [hW]; exact (Below.refl _ _).alloc (Nat.le_refl _) _
  have lga : ga < W.heap.size := lt_of_block k_a
  have lwg : w.heap.size + 2 ≤ ga := by omega
  clear hW hga
  go_loopw [25, 14, 12] (fun i _ vc wr => ∃ k : Nat, k ≤ g.cs.length ∧ i = .int .i64 k ∧ Hid (wr.ownsRow W.heap.size 3 1 vc k (ints (g.cs.take k))) ∧ Hid (Below W.heap.size W wr)) (fun i _ _ _ => g.cs.length - (intOf i).toNat)
  case atStart => exact ⟨0, by omega, rfl, World.ownsRow_nil _ _ _ _, Below.refl _ _⟩
  case round =>
    obtain ⟨k, hk, rfl, HO, HB⟩ := hrel
    obtain ⟨V, cv, rfl⟩ := own_slice HO.out
    by_cases hlt : k < g.cs.length
    · obtain ⟨gk, hvk, hgk, _, _⟩ := ROW.out.2 k hlt
      have hrow : ∃ gb, Vc = some ⟨gb, 0, none⟩ ∧ gb < w1.heap.size ∧ w1.cell? ⟨gb, k, none⟩ = some (.slice (some ⟨gk, 0, none⟩) 1 1) := by
        rcases OWN.out.2 with ⟨_, h0⟩ | ⟨gb, cap, cur, he, _, hgb, _⟩
        · omega
        · have he' : Vc = some ⟨gb, 0, none⟩ := by injection he
          subst he'
          have := OWN.out.cells (g := gb) rfl k _ hvk
          exact ⟨gb, rfl, lt_of_block hgb, by simpa [Addr.add_lit] using this⟩
      obtain ⟨gb, rfl, lgb, hcb⟩ := hrow
      have x0 : wr.cell? ⟨gb, k, none⟩ = some (.slice (some ⟨gk, 0, none⟩) 1 1) := ck HB.out (ck bW hcb)
      have hgk' := bk HB.out (bk bW hgk)
      have HT := Lib.hid (take_snoc g.cs k hlt)
      generalize g.cs.getD k 0 = z at hgk' HT
      have x1 : wr.cell? ⟨gk, 0, none⟩ = some (.int .i64 z) := cell_of_row wr gk 0 _ _ (0, 0) hgk'
      have hown := HO.out
      have lbr : W.heap.size ≤ wr.heap.size := HB.out.size
      clear hgk' hgk hvk hcb
      have hown2 : (wr).ownsRow W.heap.size 3 1 (.slice V k cv) k (ints (g.cs.take k)) := hown
      go_wp2_with (first
        | (at_builtin; refine wpList_append_lies _ rfl _ _ 27 rfl W.heap.size 3 i0 (.int .i64 0) 1 8 Try.underlying27 hi hz0 hz1 hz2 rfl (by decide) (.slice V k cv) k (ints (g.cs.take k)) rfl (hown2.alloc _) ⟨wr.heap.size, 0, none⟩ 1 1 [.int .i64 z] rfl rfl ?c1 ?c2 (by decide) ?c3 ?c4 ?c5 _ rfl ?_))
      case c1 => exact World.news_of_block (cs := #[.int .i64 z]) (t := 3) (fr := (0, 0)) (heap_alloc_new wr _)
      case c2 => intro u hu; simp at hu; first | (subst hu; rfl) | (rcases hu with rfl | rfl | rfl | rfl <;> rfl)
      case c3 => unfold maxLen; omega
      case c4 => omega
      case c5 => simp; omega
      intro gg cap Y5 hown' hgrow hat hlt'
      have bz := Lib.hid ((HB.out.alloc HB.out.size _).grown hgrow (by have := HB.out.size; simp; omega) (by intro j hj; exact (hown.lt j hj).1))
      have OWN5 := Lib.hid hown'
      clear hown' hgrow hat hlt' hown x0 x1 hown2
      go_wp2
      go_roundw
      case rel => exact ⟨k + 1, by omega, by go_num, by rw [HT.out, ints_snoc]; have h6 := OWN5.out; rw [← List.map_take] at h6; exact h6, bz⟩
      case measure => simp [intOf]; omega
    · obtain rfl : k = g.cs.length := by omega
      have k_a' := bk HB.out k_a
      have k_z' := bk HB.out (bk bW FACTS.out.2.2.2.2.2)
      have q_al := (q6c k_a').1
      have q_z := q6c k_z'
      have nza : ¬ ga = w.heap.size + 1 := by omega
      go_wp2_with fail
      refine region_tail 5 (by kernel_rfl) (by kernel_rfl) ?_
      simp only [List.take_succ_cons, List.take_zero, List.drop_succ_cons, List.drop_zero]
      repeat still_step
      refine wpStill_nil ?_
      go_wp2
      refine bodyPost_ret (v := .tuple #[.slice V g.cs.length cv, .slice Vo os.length co, .agg #[.int .i64 a, .int .i64 b, .int .i64 c, .int .i64 d, .int .i64 (c - a), .slice (some ⟨pb, 0, none⟩) N N]]) (by simp [results, Try.results45, go_sem, q_z]) rfl ?_
      have bz : Below W.heap.size W wr := HB.out
      have lz : w.heap.size + 1 < W.heap.size := by omega
      have lzz : w.heap.size ≤ w.heap.size + 1 := Nat.le_succ _
      have b2 : Below w1.heap.size w1 wr := bst bz bW
      have hown := HO.out
      rw [List.take_of_length_le (Nat.le_refl _)] at hown
      have r2 := (FACTS.out.1.below b2).more b2.size
      have na2 : 0 < os.length → ∀ b o, Vo = some ⟨b, o, none⟩ → ¬ b = w.heap.size + 1 := fun _ b o h => by have := hoo'.out b o h; omega
      have r3 := (FACTS.out.2.2.2.1.below b2).rd (n := N) GK.out.len (by omega)
      have na3 : 0 < N → ∀ b o, (some ⟨pb, 0, none⟩ : Option Addr) = some ⟨b, o, none⟩ → ¬ b = w.heap.size + 1 := fun _ b o h => by injection h with h; injection h with h; omega
      have b3 := bst b2 FACTS.out.2.2.2.2.1
      obtain ⟨Z3, eZ⟩ : ∃ Z3, Z3 = ((((((wr.setCell ⟨w.heap.size + 1, 0, none⟩ (.int .i64 a)).setCell ⟨w.heap.size + 1, 1, none⟩ (.int .i64 b)).setCell ⟨w.heap.size + 1, 2, none⟩ (.int .i64 c)).setCell ⟨w.heap.size + 1, 3, none⟩ (.int .i64 d)).setCell ⟨w.heap.size + 1, 4, none⟩ (.int .i64 (c - a))).setCell ⟨w.heap.size + 1, 5, none⟩ (.slice (some ⟨pb, 0, none⟩) N N)) := ⟨_, rfl⟩
      rw [← eZ]
      have bd : Below Z3.heap.size Z3 Z3.drew := (Below.refl _ _).drew
      have p1 : Z3.ownsRow W.heap.size 3 1 (.slice V g.cs.length cv) g.cs.length (ints g.cs) := by rw [eZ]; exact own_set6 hown lz
      have p2 : Rd Z3 Z3.heap.size Vo os.length os := Rd.sized (W := Z3) (Rd.sset na2 (Rd.sset na2 (Rd.sset na2 (Rd.sset na2 (Rd.sset na2 (Rd.sset na2 r2)))))) eZ
      have p3 : Rd Z3 Z3.heap.size (some ⟨pb, 0, none⟩) N g.bs := Rd.sized (W := Z3) (Rd.sset na3 (Rd.sset na3 (Rd.sset na3 (Rd.sset na3 (Rd.sset na3 (Rd.sset na3 r3)))))) eZ
      have p4 : Below w.heap.size w Z3 := by rw [eZ]; exact bss lzz (bss lzz (bss lzz (bss lzz (bss lzz (bss lzz b3)))))
      obtain ⟨A1', c1', e1, rd1, lo1⟩ := Rd.of_own (own_below p1 bd) (by omega) (fun z hz => by have := GK.out.cols z hz; unfold I64; omega)
      simp only [Value.slice.injEq, true_and] at e1
      obtain ⟨rfl, rfl⟩ := e1
      exact ⟨V, cv, Vo, co, some ⟨pb, 0, none⟩, N, os, rfl, rd1, (p2.below bd).more bd.size, FACTS.out.2.1, FACTS.out.2.2.1, (p3.below bd).more bd.size, fun b o h => by have := lo1 b o h; omega, fun b o h => by have := hoo'.out b o h; omega, fun b o h => by injection h with h; injection h with h; omega, p4.drew⟩

end Go.Proofs.Ytpijljokcoocpaa

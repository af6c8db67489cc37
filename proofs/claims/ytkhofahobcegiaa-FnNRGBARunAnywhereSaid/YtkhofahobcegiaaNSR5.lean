/-
  Contract: a script by the reference, on an NRGBA image. No condition.
-/
import Derived.Test.YtkhofahobcegiaaNSR4
import Derived.Deep.AppendLies
namespace Go.Proofs.Ytkhofahobcegiaa
open Go.ChangeShapes Go.WideShapes Go.ChangeAt Go.RowKit
set_option linter.unusedVariables false
set_option linter.unusedSimpArgs false

theorem flat_snoc4 (l : List Q4) (a b c d : Int) : flat (l ++ [⟨a, b, c, d⟩]) = flat l ++ [.int .i64 a, .int .i64 b, .int .i64 c, .int .i64 d] := by simp [flat]
theorem takeq_snoc (bs : List Q4) (k : Nat) (h : k < bs.length) : bs.take (k + 1) = bs.take k ++ [bs.getD k default] := by
  rw [List.take_succ_eq_append_getElem h]; simp [List.getD, h]
theorem byte_ok {q : Q4} (h : Q4.byte q) : q.ok := by
  obtain ⟨⟨a1, a2⟩, ⟨b1, b2⟩, ⟨c1, c2⟩, ⟨d1, d2⟩⟩ := h
  refine ⟨?_, ?_, ?_, ?_⟩ <;> (unfold I64; omega)

set_option maxRecDepth 100000 in
set_option maxHeartbeats 4000000 in
theorem snrgbaRun_any (a b c d : Int) (N : Nat) (h3 : 0 ≤ c - a) (h4 : c - a ≤ 1000) (h5 : 0 ≤ d - b) (h6 : d - b ≤ 1000) (hN : 4 * (c - a) * (d - b) = N) (n cp : Nat) (Z : Option Addr) (zs : List Int) (m cs : Nat) (S : Option Addr) (ss : List Stp) (w : World) (hr : Rd w w.heap.size Z n zs) (hs : RdSteps w w.heap.size S m ss) :
    Calls Try.prog 47 #[.agg #[.int .i64 a, .int .i64 b, .int .i64 c, .int .i64 d], .slice Z n cp, .slice S m cs] w (RunOut a b c d N (grun ⟨a, b, c, d⟩ (gini ⟨a, b, c, d⟩ (byt N zs)) ss) w) := by
  have kN := area_le h3 h4 h5 h6 hN
  have HN := Lib.hid hN
  have HR := Lib.hid hr
  have HS := Lib.hid hs
  have hm88 : m * 88 ≤ 140737488355328 := hs.2.1
  have hlen := grun_len ⟨a, b, c, d⟩ (gini ⟨a, b, c, d⟩ (byt N zs)) ss
  have GK := Lib.hid ((gini_ok ⟨a, b, c, d⟩ N zs).run ss)
  have hsl := hs.1
  have hcs : (grun ⟨a, b, c, d⟩ (gini ⟨a, b, c, d⟩ (byt N zs)) ss).cs.length ≤ m := by have := hlen.1; have e : (gini ⟨a, b, c, d⟩ (byt N zs)).cs.length = 0 := rfl; omega
  have hos : (grun ⟨a, b, c, d⟩ (gini ⟨a, b, c, d⟩ (byt N zs)) ss).os.length ≤ m := by have := hlen.2; have e : (gini ⟨a, b, c, d⟩ (byt N zs)).os.length = 0 := rfl; omega
  have X := Lib.hid (fun w0 hr hs => srun_any a b c d N h3 h4 h5 h6 hN n cp Z zs m cs S ss w0 hr hs)
  clear hN hr hs hlen hsl
  generalize grun ⟨a, b, c, d⟩ (gini ⟨a, b, c, d⟩ (byt N zs)) ss = g at X GK hcs hos ⊢
  obtain ⟨i0, hi, hz0, hz1, hz2⟩ := info_parts (show (Try.prog.info? 32).map (fun i => (i.zero, i.size, i.bytes)) = some (some (.agg #[.int .i64 0, .int .i64 0, .int .i64 0, .int .i64 0]), 4, 32) from by kernel_rfl)
  have b0 : Below w.heap.size w ((w.alloc (.cells #[.int .i64 a, .int .i64 b, .int .i64 c, .int .i64 d] 25)).alloc (.cells #[.int .i64 0, .int .i64 0, .int .i64 0, .int .i64 0, .int .i64 0, .slice none 0 0] 37)) := bsa (bsa (Below.refl _ _))
  go_enter Try.func47, Try.ntmps47
  go_wp2_with fail
  refine (X.out _ ((HR.out.below b0).more b0.size) ((HS.out.below b0).more b0.size)).mono ?_
  rintro e w1 ⟨base, Vc, cc, vs, Vo, co, os, pb, rfl, own, row, ro, olen, oin, pix, loo, lpb, lbase, b1⟩
  have bw1 := bst b1 b0
  have k_z := bk b1 (heap_new2 w _ _)
  have hw1 : w.heap.size + 2 ≤ w1.heap.size := by have := b1.size; simpa using this
  have hlo : w.heap.size + 2 ≤ pb := by simpa using lpb
  have hoo : ∀ b o, Vo = some ⟨b, o, none⟩ → w.heap.size + 2 ≤ b := fun b o h => by have := loo b o h; simpa using this
  have OWN := Lib.hid own
  have ROW := Lib.hid row
  have FACTS := Lib.hid (show _ from And.intro ro (And.intro olen (And.intro oin (And.intro pix (And.intro bw1 k_z)))))
  have hosl : os.length ≤ m := by omega
  have hoo' := Lib.hid hoo
  clear own row ro olen oin pix loo lpb b1 b0 bw1 k_z X lbase hoo
  go_wp2_with fail
  obtain ⟨W, ga, hW, hga⟩ : ∃ W g, W = w1.alloc (.cells #[.int .i64 a, .int .i64 b, .int .i64 c, .int .i64 d, .int .i64 (4 * (c - a)), .slice (some ⟨pb, 0, none⟩) N N] 37) ∧ g = w1.heap.size := ⟨_, _, rfl, rfl⟩
  rw [← hW, ← hga]
  have k_a : W.heap[ga]? = some (.cells #[.int .i64 a, .int .i64 b, .int .i64 c, .int .i64 d, .int .i64 (4 * (c - a)), .slice (some ⟨pb, 0, none⟩) N N] 37 (0, 0)) := by rw [hW, hga]; exact heap_alloc_new w1 _
  have bW : Below w1.heap.size w1 W := by rw [hW]; exact (Below.refl _ _).alloc (Nat.le_refl _) _
  have lga : ga < W.heap.size := lt_of_block k_a
  have lwg : w.heap.size + 2 ≤ ga := by omega
  clear hW hga
  go_loopw [25, 14, 12] (fun i _ vc wr => ∃ k : Nat, k ≤ g.cs.length ∧ i = .int .i64 k ∧ Hid (wr.ownsRow W.heap.size 32 4 vc k (flat (g.cs.take k))) ∧ Hid (Below W.heap.size W wr)) (fun i _ _ _ => g.cs.length - (intOf i).toNat)
  case atStart => exact ⟨0, by omega, rfl, World.ownsRow_nil _ _ _ _, Below.refl _ _⟩
  case round =>
    obtain ⟨k, hk, rfl, HO, HB⟩ := hrel
    obtain ⟨V, cv, rfl⟩ := own_slice HO.out
    by_cases hlt : k < g.cs.length
    · obtain ⟨gk, hvk, hgk, _, _⟩ := ROW.out.2 k hlt
      have hrow : ∃ gb, Vc = some ⟨gb, 0, none⟩ ∧ gb < w1.heap.size ∧ w1.cell? ⟨gb, k, none⟩ = some (.slice (some ⟨gk, 0, none⟩) 4 4) := by
        rcases OWN.out.2 with ⟨_, h0⟩ | ⟨gb, cap, cur, he, _, hgb, _⟩
        · omega
        · have he' : Vc = some ⟨gb, 0, none⟩ := by injection he
          subst he'
          have := OWN.out.cells (g := gb) rfl k _ hvk
          exact ⟨gb, rfl, lt_of_block hgb, by simpa [Addr.add_lit] using this⟩
      obtain ⟨gb, rfl, lgb, hcb⟩ := hrow
      have x0 : wr.cell? ⟨gb, k, none⟩ = some (.slice (some ⟨gk, 0, none⟩) 4 4) := ck HB.out (ck bW hcb)
      have hgk' := bk HB.out (bk bW hgk)
      have HT := Lib.hid (takeq_snoc g.cs k hlt)
      generalize g.cs.getD k default = z at hgk' HT
      obtain ⟨q0, q1, q2, q3⟩ := z
      have x1 : wr.cell? ⟨gk, 0, none⟩ = some (.int .i64 q0) := cell_of_row wr gk 0 _ _ (0, 0) hgk'
      have x2 : wr.cell? ⟨gk, 1, none⟩ = some (.int .i64 q1) := cell_of_row wr gk 1 _ _ (0, 0) hgk'
      have x3 : wr.cell? ⟨gk, 2, none⟩ = some (.int .i64 q2) := cell_of_row wr gk 2 _ _ (0, 0) hgk'
      have x4 : wr.cell? ⟨gk, 3, none⟩ = some (.int .i64 q3) := cell_of_row wr gk 3 _ _ (0, 0) hgk'
      have hown := HO.out
      have lbr : W.heap.size ≤ wr.heap.size := HB.out.size
      have hgkk : wr.heap[gk]? = some (.cells #[.int .i64 q0, .int .i64 q1, .int .i64 q2, .int .i64 q3] 3 (0, 0)) := hgk'
      clear hgk' hgk hvk hcb
      have bw := HB.out
      have k_c := hgkk
      go_upto_region 6 with fail
      refine wp_region_held_drew (S := fun w' => w'.cell? ⟨gk, 0, none⟩ = some (.int .i64 q0) ∧ w'.cell? ⟨gk, 1, none⟩ = some (.int .i64 q1) ∧ w'.cell? ⟨gk, 2, none⟩ = some (.int .i64 q2) ∧ w'.cell? ⟨gk, 3, none⟩ = some (.int .i64 q3)) (by kernel_rfl) ⟨(q4c k_c).1.1, (q4c k_c).1.2.1, (q4c k_c).1.2.2.1, (q4c k_c).1.2.2.2⟩ ?_
      intro hHeld
      obtain ⟨X0, eX, bc⟩ : ∃ X, X = wr.drew ∧ Below wr.heap.size wr X := ⟨_, rfl, (Below.refl _ _).drew⟩
      rw [← eX] at hHeld ⊢
      replace k_c := bk bc k_c
      replace bw := bst bc bw
      (try replace hown := own_below hown bc)
      clear eX bc
      refine takx (i := 0) (D := 29) (v := .slice V k cv) rfl rfl (by kernel_rfl) (by kernel_rfl) (by kernel_rfl) (fun _ _ _ h => h) (Or.inl ⟨by rfl, fun W hSw => by (try dsimp only at hSw); go_simp⟩) (by assumption) ?_
      (try simp only [List.setIfInBounds_toArray, List.set_cons_zero, List.set_cons_succ])
      refine takx (i := 1) (D := 30) (v := .slice (some ⟨gk, 0, none⟩) 4 4) rfl rfl (by kernel_rfl) (by kernel_rfl) (by kernel_rfl) (fun _ _ _ h => h) (Or.inl ⟨by rfl, fun W hSw => by (try dsimp only at hSw); go_simp⟩) (by assumption) ?_
      (try simp only [List.setIfInBounds_toArray, List.set_cons_zero, List.set_cons_succ])
      refine takx (i := 2) (D := 31) (v := .pointer (some ⟨gk, 0, none⟩)) rfl rfl (by kernel_rfl) (by kernel_rfl) (by kernel_rfl) (fun _ _ _ h => h) (Or.inl ⟨by rfl, fun W hSw => by (try dsimp only at hSw); go_simp⟩) (by assumption) ?_
      (try simp only [List.setIfInBounds_toArray, List.set_cons_zero, List.set_cons_succ])
      refine takx (i := 3) (D := 32) (v := .int .i64 q0) rfl rfl (by kernel_rfl) (by kernel_rfl) (by kernel_rfl) (fun _ _ _ h => h) (Or.inl ⟨by rfl, fun W hSw => by (try dsimp only at hSw); go_simp⟩) (by assumption) ?_
      (try simp only [List.setIfInBounds_toArray, List.set_cons_zero, List.set_cons_succ])
      refine takx (i := 4) (D := 33) (v := .slice (some ⟨gk, 0, none⟩) 4 4) rfl rfl (by kernel_rfl) (by kernel_rfl) (by kernel_rfl) (fun _ _ _ h => h) (Or.inl ⟨by rfl, fun W hSw => by (try dsimp only at hSw); go_simp⟩) (by assumption) ?_
      (try simp only [List.setIfInBounds_toArray, List.set_cons_zero, List.set_cons_succ])
      refine takx (i := 5) (D := 34) (v := .pointer (some ⟨gk, 1, none⟩)) rfl rfl (by kernel_rfl) (by kernel_rfl) (by kernel_rfl) (fun _ _ _ h => h) (Or.inl ⟨by rfl, fun W hSw => by (try dsimp only at hSw); go_simp⟩) (by assumption) ?_
      (try simp only [List.setIfInBounds_toArray, List.set_cons_zero, List.set_cons_succ])
      refine takx (i := 6) (D := 35) (v := .int .i64 q1) rfl rfl (by kernel_rfl) (by kernel_rfl) (by kernel_rfl) (fun _ _ _ h => h) (Or.inl ⟨by rfl, fun W hSw => by (try dsimp only at hSw); go_simp⟩) (by assumption) ?_
      (try simp only [List.setIfInBounds_toArray, List.set_cons_zero, List.set_cons_succ])
      refine takx (i := 7) (D := 36) (v := .slice (some ⟨gk, 0, none⟩) 4 4) rfl rfl (by kernel_rfl) (by kernel_rfl) (by kernel_rfl) (fun _ _ _ h => h) (Or.inl ⟨by rfl, fun W hSw => by (try dsimp only at hSw); go_simp⟩) (by assumption) ?_
      (try simp only [List.setIfInBounds_toArray, List.set_cons_zero, List.set_cons_succ])
      refine takx (i := 8) (D := 37) (v := .pointer (some ⟨gk, 2, none⟩)) rfl rfl (by kernel_rfl) (by kernel_rfl) (by kernel_rfl) (fun _ _ _ h => h) (Or.inl ⟨by rfl, fun W hSw => by (try dsimp only at hSw); go_simp⟩) (by assumption) ?_
      (try simp only [List.setIfInBounds_toArray, List.set_cons_zero, List.set_cons_succ])
      refine takx (i := 9) (D := 38) (v := .int .i64 q2) rfl rfl (by kernel_rfl) (by kernel_rfl) (by kernel_rfl) (fun _ _ _ h => h) (Or.inl ⟨by rfl, fun W hSw => by (try dsimp only at hSw); go_simp⟩) (by assumption) ?_
      (try simp only [List.setIfInBounds_toArray, List.set_cons_zero, List.set_cons_succ])
      refine takx (i := 10) (D := 39) (v := .slice (some ⟨gk, 0, none⟩) 4 4) rfl rfl (by kernel_rfl) (by kernel_rfl) (by kernel_rfl) (fun _ _ _ h => h) (Or.inl ⟨by rfl, fun W hSw => by (try dsimp only at hSw); go_simp⟩) (by assumption) ?_
      (try simp only [List.setIfInBounds_toArray, List.set_cons_zero, List.set_cons_succ])
      refine takx (i := 11) (D := 40) (v := .pointer (some ⟨gk, 3, none⟩)) rfl rfl (by kernel_rfl) (by kernel_rfl) (by kernel_rfl) (fun _ _ _ h => h) (Or.inl ⟨by rfl, fun W hSw => by (try dsimp only at hSw); go_simp⟩) (by assumption) ?_
      (try simp only [List.setIfInBounds_toArray, List.set_cons_zero, List.set_cons_succ])
      refine takx (i := 12) (D := 41) (v := .int .i64 q3) rfl rfl (by kernel_rfl) (by kernel_rfl) (by kernel_rfl) (fun _ _ _ h => h) (Or.inl ⟨by rfl, fun W hSw => by (try dsimp only at hSw); go_simp⟩) (by assumption) ?_
      (try simp only [List.setIfInBounds_toArray, List.set_cons_zero, List.set_cons_succ])
      refine takx (i := 13) (D := 42) (v := .agg #[.int .i64 q0, .int .i64 q1, .int .i64 q2, .int .i64 q3]) rfl rfl (by kernel_rfl) (by kernel_rfl) (by kernel_rfl) (fun _ _ _ h => h) (Or.inl ⟨by rfl, fun W hSw => by (try dsimp only at hSw); go_simp⟩) (by assumption) ?_
      (try simp only [List.setIfInBounds_toArray, List.set_cons_zero, List.set_cons_succ])
      refine wpAnyH_ready (rs := [14]) (by kernel_rfl) (by simp) ?_
      refine (AllReadyH.cons rfl (fun K hK => ?_) AllReadyH.nil)
      go_simp
      refine hK.out _ _ ⟨cka hHeld.1, cka hHeld.2.1, cka hHeld.2.2.1, cka hHeld.2.2.2⟩ (fun hHeld => ?_)
      clear hK K
      (try simp only [List.setIfInBounds_toArray, List.set_cons_zero, List.set_cons_succ])
      obtain ⟨X1, g1, eY, eg⟩ : ∃ Y g, Y = X0.alloc (.cells #[.int .i64 q0, .int .i64 q1, .int .i64 q2, .int .i64 q3] 32) ∧ g = X0.heap.size := ⟨_, _, rfl, rfl⟩
      rw [← eY, ← eg]
      rw [← eY] at hHeld
      have bc : Below X0.heap.size X0 X1 := by rw [eY]; exact (Below.refl _ _).alloc (Nat.le_refl _) _
      have k_n43 : X1.heap[g1]? = some (.cells #[.int .i64 q0, .int .i64 q1, .int .i64 q2, .int .i64 q3] 32 (0, 0)) := by rw [eY, eg]; exact heap_alloc_new X0 _
      have hglt : ∀ j, (Value.slice V k cv).ownBlock = some j → j < g1 := fun j hj => by rw [eg]; exact (hown.lt j hj).2
      replace k_c := bk bc k_c
      replace bw := bst bc bw
      (try replace hown := own_below hown bc)
      clear bc eY eg
      refine wpAnyH_ready (rs := [15]) (by kernel_rfl) (by simp) ?_
      refine (AllReadyH.cons rfl (fun K hK => ?_) AllReadyH.nil)
      refine step_append_lies _ (by rfl) _ _ _ (by rfl) W.heap.size 32 i0 (.agg #[.int .i64 0, .int .i64 0, .int .i64 0, .int .i64 0]) 4 32 Try.underlying35 hi hz0 hz1 hz2 rfl (by decide) (.slice V k cv) (k) (flat (g.cs.take k)) (by rfl) hown ⟨g1, 0, none⟩ 1 1 [.int .i64 q0, .int .i64 q1, .int .i64 q2, .int .i64 q3] (by rfl) (by rfl) (World.news_of_block k_n43) (by simp [Value.oneCell']) (by omega) (by unfold maxLen; omega) (by omega) bw.size _ rfl ?_
      intro gg cap X2 hown' hgrow hat hlt
      have nr_c : some gk ≠ (.slice V k cv : Value).ownBlock := ne_own hown k_c (by decide)
      have nr_n43 : some g1 ≠ (.slice V k cv : Value).ownBlock := fun e => absurd (hglt _ e.symm) (Nat.lt_irrefl _)
      refine hK.out _ _ ⟨(ckg hgrow nr_c hHeld.1), (ckg hgrow nr_c hHeld.2.1), (ckg hgrow nr_c hHeld.2.2.1), (ckg hgrow nr_c hHeld.2.2.2)⟩ (fun hHeld => ?_)
      clear hK K
      (try simp only [List.setIfInBounds_toArray, List.set_cons_zero, List.set_cons_succ])
      replace k_c := bkg hgrow nr_c k_c
      replace k_n43 := bkg hgrow nr_n43 k_n43
      replace bw := bw.grown hgrow bw.size (by intro j hj; exact (hown.lt j hj).1)
      refine takx (i := 16) (D := 12) (v := .slice (some ⟨gg, 0, none⟩) (k + 1) cap) rfl rfl (by kernel_rfl) (by kernel_rfl) (by kernel_rfl) (fun _ _ _ h => h) (Or.inl ⟨by rfl, fun W hSw => by (try dsimp only at hSw); go_simp⟩) (by assumption) ?_
      (try simp only [List.setIfInBounds_toArray, List.set_cons_zero, List.set_cons_succ])
      refine wpAnyH_done (by kernel_rfl) ?_ _
      have bz := Lib.hid bw
      have OWN5 := Lib.hid hown'
      clear hHeld hown' hgrow hat hlt hown k_c k_n43 bw hglt
      go_wp2
      go_roundw
      case rel => exact ⟨k + 1, by omega, by go_num, by rw [HT.out, flat_snoc4]; exact OWN5.out, bz⟩
      case measure => simp [intOf]; omega
    · obtain rfl : k = g.cs.length := by omega
      have k_a' := bk HB.out k_a
      have k_z' := bk HB.out (bk bW FACTS.out.2.2.2.2.2)
      have q_al := (q6c k_a').1
      have q_z := q6c k_z'
      have nza : ¬ ga = w.heap.size + 1 := by omega
      go_wp2_with fail
      refine region_tail 5 (by kernel_rfl) (by kernel_rfl) ?_
      simp only [List.take_succ_cons, List.take_zero, List.drop_succ_cons, List.drop_zero]
      repeat still_step
      refine wpStill_nil ?_
      go_wp2
      refine bodyPost_ret (v := .tuple #[.slice V g.cs.length cv, .slice Vo os.length co, .agg #[.int .i64 a, .int .i64 b, .int .i64 c, .int .i64 d, .int .i64 (4 * (c - a)), .slice (some ⟨pb, 0, none⟩) N N]]) (by simp [results, Try.results47, go_sem, q_z]) rfl ?_
      have bz : Below W.heap.size W wr := HB.out
      have lz : w.heap.size + 1 < W.heap.size := by omega
      have lzz : w.heap.size ≤ w.heap.size + 1 := Nat.le_succ _
      have b2 : Below w1.heap.size w1 wr := bst bz bW
      have hown := HO.out
      rw [List.take_of_length_le (Nat.le_refl _)] at hown
      have r2 := (FACTS.out.1.below b2).more b2.size
      have na2 : 0 < os.length → ∀ b o, Vo = some ⟨b, o, none⟩ → ¬ b = w.heap.size + 1 := fun _ b o h => by have := hoo'.out b o h; omega
      have r3 := (FACTS.out.2.2.2.1.below b2).rd (n := N) GK.out.len (by omega)
      have na3 : 0 < N → ∀ b o, (some ⟨pb, 0, none⟩ : Option Addr) = some ⟨b, o, none⟩ → ¬ b = w.heap.size + 1 := fun _ b o h => by injection h with h; injection h with h; omega
      have b3 := bst b2 FACTS.out.2.2.2.2.1
      obtain ⟨Z3, eZ⟩ : ∃ Z3, Z3 = ((((((wr.setCell ⟨w.heap.size + 1, 0, none⟩ (.int .i64 a)).setCell ⟨w.heap.size + 1, 1, none⟩ (.int .i64 b)).setCell ⟨w.heap.size + 1, 2, none⟩ (.int .i64 c)).setCell ⟨w.heap.size + 1, 3, none⟩ (.int .i64 d)).setCell ⟨w.heap.size + 1, 4, none⟩ (.int .i64 (4 * (c - a)))).setCell ⟨w.heap.size + 1, 5, none⟩ (.slice (some ⟨pb, 0, none⟩) N N)) := ⟨_, rfl⟩
      rw [← eZ]
      have bd : Below Z3.heap.size Z3 Z3.drew := (Below.refl _ _).drew
      have p1 : Z3.ownsRow W.heap.size 32 4 (.slice V g.cs.length cv) g.cs.length (flat g.cs) := by rw [eZ]; exact own_set6 hown lz
      have p2 : Rd Z3 Z3.heap.size Vo os.length os := Rd.sized (W := Z3) (Rd.sset na2 (Rd.sset na2 (Rd.sset na2 (Rd.sset na2 (Rd.sset na2 (Rd.sset na2 r2)))))) eZ
      have p3 : Rd Z3 Z3.heap.size (some ⟨pb, 0, none⟩) N g.bs := Rd.sized (W := Z3) (Rd.sset na3 (Rd.sset na3 (Rd.sset na3 (Rd.sset na3 (Rd.sset na3 (Rd.sset na3 r3)))))) eZ
      have p4 : Below w.heap.size w Z3 := by rw [eZ]; exact bss lzz (bss lzz (bss lzz (bss lzz (bss lzz (bss lzz b3)))))
      obtain ⟨A1', c1', e1, rd1, lo1⟩ := RdQuads.of_own (own_below p1 bd) (by omega) (fun z hz => byte_ok (GK.out.cols z hz))
      simp only [Value.slice.injEq, true_and] at e1
      obtain ⟨rfl, rfl⟩ := e1
      exact ⟨V, cv, Vo, co, some ⟨pb, 0, none⟩, N, os, rfl, rd1, (p2.below bd).more bd.size, FACTS.out.2.1, FACTS.out.2.2.1, (p3.below bd).more bd.size, fun b o h => by have := lo1 b o h; omega, fun b o h => by have := hoo'.out b o h; omega, fun b o h => by injection h with h; injection h with h; omega, p4.drew⟩

end Go.Proofs.Ytkhofahobcegiaa

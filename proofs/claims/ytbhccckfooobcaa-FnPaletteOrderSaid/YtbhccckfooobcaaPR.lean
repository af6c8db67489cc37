/-
  The walk of the law FnPaletteOrder. No condition.
-/
import Derived.Test.YtbhccckfooobcaaP9
namespace Go.Proofs.Ytbhccckfooobcaa
open Go.ChangeShapes Go.WideShapes Go.ChangeAt Go.RowKit
set_option linter.unusedVariables false
set_option linter.unusedSimpArgs false

set_option maxRecDepth 100000 in
set_option maxHeartbeats 4000000 in
theorem fnPaletteOrder_walk (w : World) (A : Option Addr) (n cp : Nat) (qs : List Q4) (hr : RdQuads w w.heap.size A n qs) (q : Q4) (hq : q.ok) :
    Calls Try.prog 5 #[.slice A n cp, q.val] w fun e w' => e = .returned (.bool true) ∧ Below w.heap.size w w' := by
  show Calls Try.prog 5 #[.slice A n cp, .agg #[.int .i64 q.a, .int .i64 q.b, .int .i64 q.c, .int .i64 q.d]] w _
  have HR := Lib.hid hr
  have HQ := Lib.hid hq
  have hn : n * 32 ≤ 140737488355328 := hr.2.1
  have hqd : I64 q.d := hq.2.2.2
  clear hr hq
  obtain ⟨i0, hi, hz0, hz1, hz2⟩ := info_parts (show (Try.prog.info? 23).map (fun i => (i.zero, i.size, i.bytes)) = some (some (.agg #[.int .i64 0, .int .i64 0, .int .i64 0, .int .i64 0]), 4, 32) from by kernel_rfl)
  by_cases h0 : 0 < n
  case neg =>
    have hz : ((n : Int) == 0) = true := by simp; omega
    go_enter Try.func5, Try.ntmps5
    go_wp2
    go_ret
    exact ⟨rfl, bsa (Below.refl _ _)⟩
  have hz : ((n : Int) == 0) = false := by simp; omega
  obtain ⟨b, off, rfl, hbw, _⟩ := HR.out.2.2.2 h0
  by_cases hO : Opq qs
  case neg =>
    have HO := Lib.hid hO
    clear hO
    go_enter Try.func5, Try.ntmps5
    have b0 : Below w.heap.size w (w.alloc (.cells #[.int .i64 q.a, .int .i64 q.b, .int .i64 q.c, .int .i64 q.d] 23)) := bsa (Below.refl _ _)
    go_wp2_with fail
    refine (opq_no n cp (some ⟨b, off, none⟩) qs _ ((HR.out.below b0).more b0.size) HO.out).mono ?_
    rintro e w1 ⟨rfl, bc⟩
    have bw := bs bc b0
    have k_c := bk bc (heap_alloc_new w _)
    clear bc b0
    go_wp2
    go_ret
    exact ⟨rfl, bw⟩
  have HO := Lib.hid hO
  clear hO
  by_cases h255 : q.d % 256 = 255
  case neg =>
    have h5 : (q.d % 256 != 255) = true := by simp [h255]
    clear h255
    go_enter Try.func5, Try.ntmps5
    have b0 : Below w.heap.size w (w.alloc (.cells #[.int .i64 q.a, .int .i64 q.b, .int .i64 q.c, .int .i64 q.d] 23)) := bsa (Below.refl _ _)
    go_wp2_with fail
    refine (opq_yes n cp (some ⟨b, off, none⟩) qs _ ((HR.out.below b0).more b0.size) HO.out).mono ?_
    rintro e w1 ⟨rfl, bc⟩
    have bw := bs bc b0
    have k_c := bk bc (heap_alloc_new w _)
    clear bc b0
    obtain ⟨⟨_, _, _, qd⟩, _⟩ := q4c k_c
    go_wp2_with fail
    refine (low_any q.d hqd _).mono ?_
    rintro e _ ⟨rfl, rfl⟩
    clear qd
    go_wp2
    go_ret
    exact ⟨rfl, bw⟩
  have h5 : (q.d % 256 != 255) = false := by simp [h255]
  have H5 := Lib.hid h255
  clear h255
  go_enter Try.func5, Try.ntmps5
  have b0 : Below w.heap.size w (w.alloc (.cells #[.int .i64 q.a, .int .i64 q.b, .int .i64 q.c, .int .i64 q.d] 23)) := bsa (Below.refl _ _)
  go_wp2_with fail
  refine (opq_yes n cp (some ⟨b, off, none⟩) qs _ ((HR.out.below b0).more b0.size) HO.out).mono ?_
  rintro e w1 ⟨rfl, bc⟩
  have bw := bs bc b0
  have k_c := bk bc (heap_alloc_new w _)
  clear bc b0
  obtain ⟨⟨_, _, _, qd⟩, _⟩ := q4c k_c
  go_wp2_with fail
  refine (low_any q.d hqd _).mono ?_
  rintro e _ ⟨rfl, rfl⟩
  clear qd
  have HOpq := HO
  have BW1 := Lib.hid bw
  have KC1 := Lib.hid k_c
  clear bw k_c
  go_wp2_with fail
  go_loopw [6, 5] (fun i v wr => ∃ (k : Nat) (ii : Int), k ≤ n ∧ i = .int .i64 ii ∧ ii ≤ (n : Int) - 1 - k ∧ (n : Int) - 1 - k ≤ ii ∧ Hid (wr.ownsRow w1.heap.size 23 4 v k (flat (qs.reverse.take k))) ∧ Hid (Below w1.heap.size w1 wr)) (fun i _ _ => (intOf i + 1).toNat)
  case atStart => exact ⟨0, (n : Int) - 1, by omega, by go_num, by omega, by omega, World.ownsRow_nil _ _ _ _, Below.refl _ _⟩
  case round =>
    obtain ⟨k, ii, hk, rfl, i1, i2, HO, HB⟩ := hrel
    obtain ⟨V, cv, rfl⟩ := own_slice HO.out
    by_cases hlt : k < n
    · have i3 : 0 ≤ ii := by omega
      have i4 : ii < (n : Int) := by omega
      have hj : ii.toNat < n := by omega
      obtain ⟨x1, x2, x3, x4⟩ := ((HR.out.below BW1.out).more BW1.out.size |>.below HB.out).at hj
      have HT := Lib.hid (show qs.reverse.take (k + 1) = qs.reverse.take k ++ [qs.getD ii.toNat default] by
        have hl := HR.out.1
        rw [takeq_snoc qs.reverse k (by simp; omega)]
        congr 2
        simp only [List.getD]
        rw [List.getElem?_reverse (by omega)]
        congr 2
        omega)
      generalize qs.getD ii.toNat default = x at x1 x2 x3 x4 HT
      have hown := HO.out
      go_wp2_with (first
        | (at_builtin; refine wpList_append_own _ rfl _ _ 30 rfl w1.heap.size 23 i0 (.agg #[.int .i64 0, .int .i64 0, .int .i64 0, .int .i64 0]) 4 32 Try.underlying30 hi hz0 hz1 hz2 rfl (by decide) _ _ _ rfl (hown.alloc _) ⟨wr.heap.size, 0, none⟩ 1 1 [.int .i64 x.a, .int .i64 x.b, .int .i64 x.c, .int .i64 x.d] rfl rfl ?c1 ?c2 ?c3 ?c4 ?c5 ?_))
      case c1 => exact four_cells _ _ _ _ _ _
      case c2 => intro u hu; simp at hu; rcases hu with rfl | rfl | rfl | rfl <;> rfl
      case c3 => unfold maxLen; omega
      case c4 => omega
      case c5 => have := HB.out.size; simp; omega
      intro v' w2 hown' hgrow _
      have B2 := Lib.hid ((HB.out.alloc HB.out.size _).grown hgrow (by have := HB.out.size; simp; omega) (by intro j hj; exact (hown.lt j hj).1))
      have OW := Lib.hid hown'
      clear hown' hgrow hown x1 x2 x3 x4
      go_wp2
      go_roundw
      case rel => exact ⟨k + 1, ii - 1, by omega, by go_num, by omega, by omega, by rw [HT.out, flat_append]; exact OW, B2⟩
      case measure => simp [intOf]; omega
    · obtain rfl : k = n := by omega
      have i3 : ¬ 0 ≤ ii := by omega
      have hqs : qs.reverse.take k = qs.reverse := List.take_of_length_le (by rw [List.length_reverse, HR.out.1]; exact Nat.le_refl _)
      have own1 := HO.out
      rw [hqs] at own1
      obtain ⟨A2, c2, e2, rb0, _⟩ := RdQuads.of_own own1 hn (fun x hx => HR.out.2.2.1 x (List.mem_reverse.1 hx))
      simp only [Value.slice.injEq, true_and] at e2
      obtain ⟨rfl, rfl⟩ := e2
      have BW0 := Lib.hid (bs HB.out BW1.out)
      have RB := Lib.hid rb0
      have HR2 := Lib.hid ((HR.out.below BW0.out).more BW0.out.size)
      have HOr := Lib.hid (show Opq qs.reverse from fun x hx => HOpq.out x (List.mem_reverse.1 hx))
      have k_c := bk HB.out KC1.out
      have bw : Below wr.heap.size wr wr := Below.refl _ _
      clear own1 rb0 HO HB BW1 KC1 hqs
      go_upto_region 8 with fail
      go_cut [7, 8] (fun sx so wx => ∃ (g i : Nat) (x : Q4), sx = .pointer (some ⟨g, 0, none⟩) ∧ so = .bool true ∧ wx.heap[g]? = some (.cells #[.int .i64 (x.a % 256), .int .i64 (x.b % 256), .int .i64 (x.c % 256), .int .i64 (x.d % 256)] 25 (0, 0)) ∧ wx.heap[w.heap.size]? = some (.cells #[.int .i64 q.a, .int .i64 q.b, .int .i64 q.c, .int .i64 q.d] 23 (0, 0)) ∧ Hid (x = qs.getD i default) ∧ Hid (First (qs.map (sdist q)) i) ∧ Hid (Below wr.heap.size wr wx))
      case first =>
        refine wp_region_held_drew (S := fun w' => w'.cell? ⟨w.heap.size, 0, none⟩ = some (.int .i64 q.a) ∧ w'.cell? ⟨w.heap.size, 1, none⟩ = some (.int .i64 q.b) ∧ w'.cell? ⟨w.heap.size, 2, none⟩ = some (.int .i64 q.c) ∧ w'.cell? ⟨w.heap.size, 3, none⟩ = some (.int .i64 q.d)) (by kernel_rfl) ⟨(q4c k_c).1.1, (q4c k_c).1.2.1, (q4c k_c).1.2.2.1, (q4c k_c).1.2.2.2⟩ ?_
        intro hHeld
        obtain ⟨X0, eX, bc⟩ : ∃ X, X = wr.drew ∧ Below wr.heap.size wr X := ⟨_, rfl, (Below.refl _ _).drew⟩
        rw [← eX] at hHeld ⊢
        replace k_c := bk bc k_c
        replace bw := bs bc bw
        (try replace r1 := (r1.below bc).more bc.size)
        clear eX bc
        refine takx (i := 0) (D := 40) (v := .slice (some ⟨b, off, none⟩) k cp) rfl rfl (by kernel_rfl) (by kernel_rfl) (by kernel_rfl) (fun _ _ _ h => h) (Or.inl ⟨by rfl, fun W hSw => by (try dsimp only at hSw); go_simp⟩) (by assumption) ?_
        (try simp only [List.setIfInBounds_toArray, List.set_cons_zero, List.set_cons_succ])
        refine takx (i := 2) (D := 42) (v := .agg #[.int .i64 q.a, .int .i64 q.b, .int .i64 q.c, .int .i64 q.d]) rfl rfl (by kernel_rfl) (by kernel_rfl) (by kernel_rfl) (fun _ _ _ h => h) (Or.inl ⟨by rfl, fun W hSw => by (try dsimp only at hSw); go_simp⟩) (by assumption) ?_
        (try simp only [List.setIfInBounds_toArray, List.set_cons_zero, List.set_cons_succ])
        refine wpAnyH_ready (rs := [1, 8]) (by kernel_rfl) (by simp) ?_
        refine (AllReadyH.cons rfl (fun K hK => ?_) (AllReadyH.cons rfl (fun K hK => ?_) AllReadyH.nil))
        · go_simp
          refine (toColors_any k cp (some ⟨b, off, none⟩) qs _ ((HR2.out.below bw).more bw.size)).mono ?_
          rintro e X1 ⟨A1, cp1, rfl, r1, lo1, bc⟩
          refine hK.out _ _ ⟨ck bc hHeld.1, ck bc hHeld.2.1, ck bc hHeld.2.2.1, ck bc hHeld.2.2.2⟩ (fun hHeld => ?_)
          clear hK K
          (try simp only [List.setIfInBounds_toArray, List.set_cons_zero, List.set_cons_succ])
          replace k_c := bk bc k_c
          replace bw := bs bc bw
          (try replace r1 := (r1.below bc).more bc.size)
          clear bc
          refine wpAnyH_ready (rs := [3, 8]) (by kernel_rfl) (by simp) ?_
          refine (AllReadyH.cons rfl (fun K hK => ?_) (AllReadyH.cons rfl (fun K hK => ?_) AllReadyH.nil))
          · go_simp
            refine (toColor4 q.a q.b q.c q.d _).mono ?_
            rintro e X2 ⟨rfl, bc⟩
            refine hK.out _ _ ⟨ck bc hHeld.1, ck bc hHeld.2.1, ck bc hHeld.2.2.1, ck bc hHeld.2.2.2⟩ (fun hHeld => ?_)
            clear hK K
            (try simp only [List.setIfInBounds_toArray, List.set_cons_zero, List.set_cons_succ])
            replace k_c := bk bc k_c
            replace bw := bs bc bw
            (try replace r1 := (r1.below bc).more bc.size)
            clear bc
            refine wpAnyH_ready (rs := [4, 8]) (by kernel_rfl) (by simp) ?_
            refine (AllReadyH.cons rfl (fun K hK => ?_) (AllReadyH.cons rfl (fun K hK => ?_) AllReadyH.nil))
            · go_simp
              refine (palConv4 k cp1 A1 qs (q.a) (q.b) (q.c) (q.d) _ r1 h0).mono ?_
              rintro e X3 ⟨i, x, rfl, hx0, hf0, bc⟩
              refine hK.out _ _ ⟨ck bc hHeld.1, ck bc hHeld.2.1, ck bc hHeld.2.2.1, ck bc hHeld.2.2.2⟩ (fun hHeld => ?_)
              clear hK K
              (try simp only [List.setIfInBounds_toArray, List.set_cons_zero, List.set_cons_succ])
              replace k_c := bk bc k_c
              replace bw := bs bc bw
              (try replace r1 := (r1.below bc).more bc.size)
              have Hx := Lib.hid hx0
              have Fi := Lib.hid hf0
              clear hx0 hf0
              clear bc
              refine takx (i := 5) (D := 39) (v := .tuple #[.agg #[.int .i64 (x.a % 256), .int .i64 (x.b % 256), .int .i64 (x.c % 256), .int .i64 (x.d % 256)], .bool true]) rfl rfl (by kernel_rfl) (by kernel_rfl) (by kernel_rfl) (fun _ _ _ h => h) (Or.inl ⟨by rfl, fun W hSw => by (try dsimp only at hSw); go_simp⟩) (by assumption) ?_
              (try simp only [List.setIfInBounds_toArray, List.set_cons_zero, List.set_cons_succ])
              refine takx (i := 6) (D := 45) (v := .agg #[.int .i64 (x.a % 256), .int .i64 (x.b % 256), .int .i64 (x.c % 256), .int .i64 (x.d % 256)]) rfl rfl (by kernel_rfl) (by kernel_rfl) (by kernel_rfl) (fun _ _ _ h => h) (Or.inl ⟨by rfl, fun W hSw => by (try dsimp only at hSw); go_simp⟩) (by assumption) ?_
              (try simp only [List.setIfInBounds_toArray, List.set_cons_zero, List.set_cons_succ])
              refine takx (i := 7) (D := 46) (v := .bool true) rfl rfl (by kernel_rfl) (by kernel_rfl) (by kernel_rfl) (fun _ _ _ h => h) (Or.inl ⟨by rfl, fun W hSw => by (try dsimp only at hSw); go_simp⟩) (by assumption) ?_
              (try simp only [List.setIfInBounds_toArray, List.set_cons_zero, List.set_cons_succ])
              refine wpAnyH_ready (rs := [8]) (by kernel_rfl) (by simp) ?_
              refine (AllReadyH.cons rfl (fun K hK => ?_) AllReadyH.nil)
              go_simp
              refine hK.out _ _ ⟨cka hHeld.1, cka hHeld.2.1, cka hHeld.2.2.1, cka hHeld.2.2.2⟩ (fun hHeld => ?_)
              clear hK K
              (try simp only [List.setIfInBounds_toArray, List.set_cons_zero, List.set_cons_succ])
              obtain ⟨X4, g4, eY, eg⟩ : ∃ Y g, Y = X3.alloc (.cells #[.int .i64 0, .int .i64 0, .int .i64 0, .int .i64 0] 25) ∧ g = X3.heap.size := ⟨_, _, rfl, rfl⟩
              rw [← eY, ← eg]
              rw [← eY] at hHeld
              have bc : Below X3.heap.size X3 X4 := by rw [eY]; exact (Below.refl _ _).alloc (Nat.le_refl _) _
              have k_n7 : X4.heap[g4]? = some (.cells #[.int .i64 0, .int .i64 0, .int .i64 0, .int .i64 0] 25 (0, 0)) := by rw [eY, eg]; exact heap_alloc_new X3 _
              have lo_n7 : wr.heap.size ≤ g4 := by rw [eg]; exact bw.size
              have ne_c_n7 : ¬ w.heap.size = g4 := ne_new k_c eg
              replace k_c := bk bc k_c
              replace bw := bs bc bw
              (try replace r1 := (r1.below bc).more bc.size)
              clear bc eY eg
              refine wpAnyH_ready (rs := [9]) (by kernel_rfl) (by simp) ?_
              refine (AllReadyH.cons rfl (fun K hK => ?_) AllReadyH.nil)
              have qq := q4c k_n7
              go_simp
              clear qq
              refine hK.out _ _ ⟨(cks ne_c_n7 (cks ne_c_n7 (cks ne_c_n7 (cks ne_c_n7 hHeld.1)))), (cks ne_c_n7 (cks ne_c_n7 (cks ne_c_n7 (cks ne_c_n7 hHeld.2.1)))), (cks ne_c_n7 (cks ne_c_n7 (cks ne_c_n7 (cks ne_c_n7 hHeld.2.2.1)))), (cks ne_c_n7 (cks ne_c_n7 (cks ne_c_n7 (cks ne_c_n7 hHeld.2.2.2))))⟩ (fun hHeld => ?_)
              clear hK K
              (try simp only [List.setIfInBounds_toArray, List.set_cons_zero, List.set_cons_succ])
              obtain ⟨X5, eY⟩ : ∃ Y, Y = ((((X4.setCell ⟨g4, 0, none⟩ (.int .i64 (x.a % 256))).setCell ⟨g4, 1, none⟩ (.int .i64 (x.b % 256))).setCell ⟨g4, 2, none⟩ (.int .i64 (x.c % 256))).setCell ⟨g4, 3, none⟩ (.int .i64 (x.d % 256))) := ⟨_, rfl⟩
              rw [← eY] at hHeld ⊢
              replace k_c : X5.heap[w.heap.size]? = some (.cells #[.int .i64 q.a, .int .i64 q.b, .int .i64 q.c, .int .i64 q.d] 23 (0, 0)) := by rw [eY]; exact (bks ne_c_n7 (bks ne_c_n7 (bks ne_c_n7 (bks ne_c_n7 k_c))))
              replace bw : Below wr.heap.size wr X5 := by rw [eY]; exact (bss lo_n7 (bss lo_n7 (bss lo_n7 (bss lo_n7 bw))))
              replace k_n7 : X5.heap[g4]? = some (.cells #[.int .i64 (x.a % 256), .int .i64 (x.b % 256), .int .i64 (x.c % 256), .int .i64 (x.d % 256)] 25 (0, 0)) := by rw [eY]; exact q4s k_n7
              clear eY
              refine takx (i := 10) (D := 8) (v := .bool true) rfl rfl (by kernel_rfl) (by kernel_rfl) (by kernel_rfl) (fun _ _ _ h => h) (Or.inl ⟨by rfl, fun W hSw => by (try dsimp only at hSw); go_simp⟩) (by assumption) ?_
              (try simp only [List.setIfInBounds_toArray, List.set_cons_zero, List.set_cons_succ])
              refine wpAnyH_done (by kernel_rfl) ?_ _
              go_wp2_with fail
              go_meet
              exact ⟨_, i, x, rfl, rfl, k_n7, k_c, Hx, Fi, bw⟩
            · go_simp
              refine hK.out _ _ ⟨cka hHeld.1, cka hHeld.2.1, cka hHeld.2.2.1, cka hHeld.2.2.2⟩ (fun hHeld => ?_)
              clear hK K
              (try simp only [List.setIfInBounds_toArray, List.set_cons_zero, List.set_cons_succ])
              obtain ⟨X6, g6, eY, eg⟩ : ∃ Y g, Y = X2.alloc (.cells #[.int .i64 0, .int .i64 0, .int .i64 0, .int .i64 0] 25) ∧ g = X2.heap.size := ⟨_, _, rfl, rfl⟩
              rw [← eY, ← eg]
              rw [← eY] at hHeld
              have bc : Below X2.heap.size X2 X6 := by rw [eY]; exact (Below.refl _ _).alloc (Nat.le_refl _) _
              have k_n7 : X6.heap[g6]? = some (.cells #[.int .i64 0, .int .i64 0, .int .i64 0, .int .i64 0] 25 (0, 0)) := by rw [eY, eg]; exact heap_alloc_new X2 _
              have lo_n7 : wr.heap.size ≤ g6 := by rw [eg]; exact bw.size
              have ne_c_n7 : ¬ w.heap.size = g6 := ne_new k_c eg
              replace k_c := bk bc k_c
              replace bw := bs bc bw
              (try replace r1 := (r1.below bc).more bc.size)
              clear bc eY eg
              refine wpAnyH_ready (rs := [4]) (by kernel_rfl) (by simp) ?_
              refine (AllReadyH.cons rfl (fun K hK => ?_) AllReadyH.nil)
              go_simp
              refine (palConv4 k cp1 A1 qs (q.a) (q.b) (q.c) (q.d) _ r1 h0).mono ?_
              rintro e X7 ⟨i, x, rfl, hx0, hf0, bc⟩
              refine hK.out _ _ ⟨ck bc hHeld.1, ck bc hHeld.2.1, ck bc hHeld.2.2.1, ck bc hHeld.2.2.2⟩ (fun hHeld => ?_)
              clear hK K
              (try simp only [List.setIfInBounds_toArray, List.set_cons_zero, List.set_cons_succ])
              replace k_c := bk bc k_c
              replace k_n7 := bk bc k_n7
              replace bw := bs bc bw
              (try replace r1 := (r1.below bc).more bc.size)
              have Hx := Lib.hid hx0
              have Fi := Lib.hid hf0
              clear hx0 hf0
              clear bc
              refine takx (i := 5) (D := 39) (v := .tuple #[.agg #[.int .i64 (x.a % 256), .int .i64 (x.b % 256), .int .i64 (x.c % 256), .int .i64 (x.d % 256)], .bool true]) rfl rfl (by kernel_rfl) (by kernel_rfl) (by kernel_rfl) (fun _ _ _ h => h) (Or.inl ⟨by rfl, fun W hSw => by (try dsimp only at hSw); go_simp⟩) (by assumption) ?_
              (try simp only [List.setIfInBounds_toArray, List.set_cons_zero, List.set_cons_succ])
              refine takx (i := 6) (D := 45) (v := .agg #[.int .i64 (x.a % 256), .int .i64 (x.b % 256), .int .i64 (x.c % 256), .int .i64 (x.d % 256)]) rfl rfl (by kernel_rfl) (by kernel_rfl) (by kernel_rfl) (fun _ _ _ h => h) (Or.inl ⟨by rfl, fun W hSw => by (try dsimp only at hSw); go_simp⟩) (by assumption) ?_
              (try simp only [List.setIfInBounds_toArray, List.set_cons_zero, List.set_cons_succ])
              refine takx (i := 7) (D := 46) (v := .bool true) rfl rfl (by kernel_rfl) (by kernel_rfl) (by kernel_rfl) (fun _ _ _ h => h) (Or.inl ⟨by rfl, fun W hSw => by (try dsimp only at hSw); go_simp⟩) (by assumption) ?_
              (try simp only [List.setIfInBounds_toArray, List.set_cons_zero, List.set_cons_succ])
              refine wpAnyH_ready (rs := [9]) (by kernel_rfl) (by simp) ?_
              refine (AllReadyH.cons rfl (fun K hK => ?_) AllReadyH.nil)
              have qq := q4c k_n7
              go_simp
              clear qq
              refine hK.out _ _ ⟨(cks ne_c_n7 (cks ne_c_n7 (cks ne_c_n7 (cks ne_c_n7 hHeld.1)))), (cks ne_c_n7 (cks ne_c_n7 (cks ne_c_n7 (cks ne_c_n7 hHeld.2.1)))), (cks ne_c_n7 (cks ne_c_n7 (cks ne_c_n7 (cks ne_c_n7 hHeld.2.2.1)))), (cks ne_c_n7 (cks ne_c_n7 (cks ne_c_n7 (cks ne_c_n7 hHeld.2.2.2))))⟩ (fun hHeld => ?_)
              clear hK K
              (try simp only [List.setIfInBounds_toArray, List.set_cons_zero, List.set_cons_succ])
              obtain ⟨X8, eY⟩ : ∃ Y, Y = ((((X7.setCell ⟨g6, 0, none⟩ (.int .i64 (x.a % 256))).setCell ⟨g6, 1, none⟩ (.int .i64 (x.b % 256))).setCell ⟨g6, 2, none⟩ (.int .i64 (x.c % 256))).setCell ⟨g6, 3, none⟩ (.int .i64 (x.d % 256))) := ⟨_, rfl⟩
              rw [← eY] at hHeld ⊢
              replace k_c : X8.heap[w.heap.size]? = some (.cells #[.int .i64 q.a, .int .i64 q.b, .int .i64 q.c, .int .i64 q.d] 23 (0, 0)) := by rw [eY]; exact (bks ne_c_n7 (bks ne_c_n7 (bks ne_c_n7 (bks ne_c_n7 k_c))))
              replace bw : Below wr.heap.size wr X8 := by rw [eY]; exact (bss lo_n7 (bss lo_n7 (bss lo_n7 (bss lo_n7 bw))))
              replace k_n7 : X8.heap[g6]? = some (.cells #[.int .i64 (x.a % 256), .int .i64 (x.b % 256), .int .i64 (x.c % 256), .int .i64 (x.d % 256)] 25 (0, 0)) := by rw [eY]; exact q4s k_n7
              clear eY
              refine takx (i := 10) (D := 8) (v := .bool true) rfl rfl (by kernel_rfl) (by kernel_rfl) (by kernel_rfl) (fun _ _ _ h => h) (Or.inl ⟨by rfl, fun W hSw => by (try dsimp only at hSw); go_simp⟩) (by assumption) ?_
              (try simp only [List.setIfInBounds_toArray, List.set_cons_zero, List.set_cons_succ])
              refine wpAnyH_done (by kernel_rfl) ?_ _
              go_wp2_with fail
              go_meet
              exact ⟨_, i, x, rfl, rfl, k_n7, k_c, Hx, Fi, bw⟩
          · go_simp
            refine hK.out _ _ ⟨cka hHeld.1, cka hHeld.2.1, cka hHeld.2.2.1, cka hHeld.2.2.2⟩ (fun hHeld => ?_)
            clear hK K
            (try simp only [List.setIfInBounds_toArray, List.set_cons_zero, List.set_cons_succ])
            obtain ⟨X9, g9, eY, eg⟩ : ∃ Y g, Y = X1.alloc (.cells #[.int .i64 0, .int .i64 0, .int .i64 0, .int .i64 0] 25) ∧ g = X1.heap.size := ⟨_, _, rfl, rfl⟩
            rw [← eY, ← eg]
            rw [← eY] at hHeld
            have bc : Below X1.heap.size X1 X9 := by rw [eY]; exact (Below.refl _ _).alloc (Nat.le_refl _) _
            have k_n7 : X9.heap[g9]? = some (.cells #[.int .i64 0, .int .i64 0, .int .i64 0, .int .i64 0] 25 (0, 0)) := by rw [eY, eg]; exact heap_alloc_new X1 _
            have lo_n7 : wr.heap.size ≤ g9 := by rw [eg]; exact bw.size
            have ne_c_n7 : ¬ w.heap.size = g9 := ne_new k_c eg
            replace k_c := bk bc k_c
            replace bw := bs bc bw
            (try replace r1 := (r1.below bc).more bc.size)
            clear bc eY eg
            refine wpAnyH_ready (rs := [3]) (by kernel_rfl) (by simp) ?_
            refine (AllReadyH.cons rfl (fun K hK => ?_) AllReadyH.nil)
            go_simp
            refine (toColor4 q.a q.b q.c q.d _).mono ?_
            rintro e X10 ⟨rfl, bc⟩
            refine hK.out _ _ ⟨ck bc hHeld.1, ck bc hHeld.2.1, ck bc hHeld.2.2.1, ck bc hHeld.2.2.2⟩ (fun hHeld => ?_)
            clear hK K
            (try simp only [List.setIfInBounds_toArray, List.set_cons_zero, List.set_cons_succ])
            replace k_c := bk bc k_c
            replace k_n7 := bk bc k_n7
            replace bw := bs bc bw
            (try replace r1 := (r1.below bc).more bc.size)
            clear bc
            refine wpAnyH_ready (rs := [4]) (by kernel_rfl) (by simp) ?_
            refine (AllReadyH.cons rfl (fun K hK => ?_) AllReadyH.nil)
            go_simp
            refine (palConv4 k cp1 A1 qs (q.a) (q.b) (q.c) (q.d) _ r1 h0).mono ?_
            rintro e X11 ⟨i, x, rfl, hx0, hf0, bc⟩
            refine hK.out _ _ ⟨ck bc hHeld.1, ck bc hHeld.2.1, ck bc hHeld.2.2.1, ck bc hHeld.2.2.2⟩ (fun hHeld => ?_)
            clear hK K
            (try simp only [List.setIfInBounds_toArray, List.set_cons_zero, List.set_cons_succ])
            replace k_c := bk bc k_c
            replace k_n7 := bk bc k_n7
            replace bw := bs bc bw
            (try replace r1 := (r1.below bc).more bc.size)
            have Hx := Lib.hid hx0
            have Fi := Lib.hid hf0
            clear hx0 hf0
            clear bc
            refine takx (i := 5) (D := 39) (v := .tuple #[.agg #[.int .i64 (x.a % 256), .int .i64 (x.b % 256), .int .i64 (x.c % 256), .int .i64 (x.d % 256)], .bool true]) rfl rfl (by kernel_rfl) (by kernel_rfl) (by kernel_rfl) (fun _ _ _ h => h) (Or.inl ⟨by rfl, fun W hSw => by (try dsimp only at hSw); go_simp⟩) (by assumption) ?_
            (try simp only [List.setIfInBounds_toArray, List.set_cons_zero, List.set_cons_succ])
            refine takx (i := 6) (D := 45) (v := .agg #[.int .i64 (x.a % 256), .int .i64 (x.b % 256), .int .i64 (x.c % 256), .int .i64 (x.d % 256)]) rfl rfl (by kernel_rfl) (by kernel_rfl) (by kernel_rfl) (fun _ _ _ h => h) (Or.inl ⟨by rfl, fun W hSw => by (try dsimp only at hSw); go_simp⟩) (by assumption) ?_
            (try simp only [List.setIfInBounds_toArray, List.set_cons_zero, List.set_cons_succ])
            refine takx (i := 7) (D := 46) (v := .bool true) rfl rfl (by kernel_rfl) (by kernel_rfl) (by kernel_rfl) (fun _ _ _ h => h) (Or.inl ⟨by rfl, fun W hSw => by (try dsimp only at hSw); go_simp⟩) (by assumption) ?_
            (try simp only [List.setIfInBounds_toArray, List.set_cons_zero, List.set_cons_succ])
            refine wpAnyH_ready (rs := [9]) (by kernel_rfl) (by simp) ?_
            refine (AllReadyH.cons rfl (fun K hK => ?_) AllReadyH.nil)
            have qq := q4c k_n7
            go_simp
            clear qq
            refine hK.out _ _ ⟨(cks ne_c_n7 (cks ne_c_n7 (cks ne_c_n7 (cks ne_c_n7 hHeld.1)))), (cks ne_c_n7 (cks ne_c_n7 (cks ne_c_n7 (cks ne_c_n7 hHeld.2.1)))), (cks ne_c_n7 (cks ne_c_n7 (cks ne_c_n7 (cks ne_c_n7 hHeld.2.2.1)))), (cks ne_c_n7 (cks ne_c_n7 (cks ne_c_n7 (cks ne_c_n7 hHeld.2.2.2))))⟩ (fun hHeld => ?_)
            clear hK K
            (try simp only [List.setIfInBounds_toArray, List.set_cons_zero, List.set_cons_succ])
            obtain ⟨X12, eY⟩ : ∃ Y, Y = ((((X11.setCell ⟨g9, 0, none⟩ (.int .i64 (x.a % 256))).setCell ⟨g9, 1, none⟩ (.int .i64 (x.b % 256))).setCell ⟨g9, 2, none⟩ (.int .i64 (x.c % 256))).setCell ⟨g9, 3, none⟩ (.int .i64 (x.d % 256))) := ⟨_, rfl⟩
            rw [← eY] at hHeld ⊢
            replace k_c : X12.heap[w.heap.size]? = some (.cells #[.int .i64 q.a, .int .i64 q.b, .int .i64 q.c, .int .i64 q.d] 23 (0, 0)) := by rw [eY]; exact (bks ne_c_n7 (bks ne_c_n7 (bks ne_c_n7 (bks ne_c_n7 k_c))))
            replace bw : Below wr.heap.size wr X12 := by rw [eY]; exact (bss lo_n7 (bss lo_n7 (bss lo_n7 (bss lo_n7 bw))))
            replace k_n7 : X12.heap[g9]? = some (.cells #[.int .i64 (x.a % 256), .int .i64 (x.b % 256), .int .i64 (x.c % 256), .int .i64 (x.d % 256)] 25 (0, 0)) := by rw [eY]; exact q4s k_n7
            clear eY
            refine takx (i := 10) (D := 8) (v := .bool true) rfl rfl (by kernel_rfl) (by kernel_rfl) (by kernel_rfl) (fun _ _ _ h => h) (Or.inl ⟨by rfl, fun W hSw => by (try dsimp only at hSw); go_simp⟩) (by assumption) ?_
            (try simp only [List.setIfInBounds_toArray, List.set_cons_zero, List.set_cons_succ])
            refine wpAnyH_done (by kernel_rfl) ?_ _
            go_wp2_with fail
            go_meet
            exact ⟨_, i, x, rfl, rfl, k_n7, k_c, Hx, Fi, bw⟩
        · go_simp
          refine hK.out _ _ ⟨cka hHeld.1, cka hHeld.2.1, cka hHeld.2.2.1, cka hHeld.2.2.2⟩ (fun hHeld => ?_)
          clear hK K
          (try simp only [List.setIfInBounds_toArray, List.set_cons_zero, List.set_cons_succ])
          obtain ⟨X13, g13, eY, eg⟩ : ∃ Y g, Y = X0.alloc (.cells #[.int .i64 0, .int .i64 0, .int .i64 0, .int .i64 0] 25) ∧ g = X0.heap.size := ⟨_, _, rfl, rfl⟩
          rw [← eY, ← eg]
          rw [← eY] at hHeld
          have bc : Below X0.heap.size X0 X13 := by rw [eY]; exact (Below.refl _ _).alloc (Nat.le_refl _) _
          have k_n7 : X13.heap[g13]? = some (.cells #[.int .i64 0, .int .i64 0, .int .i64 0, .int .i64 0] 25 (0, 0)) := by rw [eY, eg]; exact heap_alloc_new X0 _
          have lo_n7 : wr.heap.size ≤ g13 := by rw [eg]; exact bw.size
          have ne_c_n7 : ¬ w.heap.size = g13 := ne_new k_c eg
          replace k_c := bk bc k_c
          replace bw := bs bc bw
          (try replace r1 := (r1.below bc).more bc.size)
          clear bc eY eg
          refine wpAnyH_ready (rs := [1]) (by kernel_rfl) (by simp) ?_
          refine (AllReadyH.cons rfl (fun K hK => ?_) AllReadyH.nil)
          go_simp
          refine (toColors_any k cp (some ⟨b, off, none⟩) qs _ ((HR2.out.below bw).more bw.size)).mono ?_
          rintro e X14 ⟨A1, cp1, rfl, r1, lo1, bc⟩
          refine hK.out _ _ ⟨ck bc hHeld.1, ck bc hHeld.2.1, ck bc hHeld.2.2.1, ck bc hHeld.2.2.2⟩ (fun hHeld => ?_)
          clear hK K
          (try simp only [List.setIfInBounds_toArray, List.set_cons_zero, List.set_cons_succ])
          replace k_c := bk bc k_c
          replace k_n7 := bk bc k_n7
          replace bw := bs bc bw
          (try replace r1 := (r1.below bc).more bc.size)
          clear bc
          refine wpAnyH_ready (rs := [3]) (by kernel_rfl) (by simp) ?_
          refine (AllReadyH.cons rfl (fun K hK => ?_) AllReadyH.nil)
          go_simp
          refine (toColor4 q.a q.b q.c q.d _).mono ?_
          rintro e X15 ⟨rfl, bc⟩
          refine hK.out _ _ ⟨ck bc hHeld.1, ck bc hHeld.2.1, ck bc hHeld.2.2.1, ck bc hHeld.2.2.2⟩ (fun hHeld => ?_)
          clear hK K
          (try simp only [List.setIfInBounds_toArray, List.set_cons_zero, List.set_cons_succ])
          replace k_c := bk bc k_c
          replace k_n7 := bk bc k_n7
          replace bw := bs bc bw
          (try replace r1 := (r1.below bc).more bc.size)
          clear bc
          refine wpAnyH_ready (rs := [4]) (by kernel_rfl) (by simp) ?_
          refine (AllReadyH.cons rfl (fun K hK => ?_) AllReadyH.nil)
          go_simp
          refine (palConv4 k cp1 A1 qs (q.a) (q.b) (q.c) (q.d) _ r1 h0).mono ?_
          rintro e X16 ⟨i, x, rfl, hx0, hf0, bc⟩
          refine hK.out _ _ ⟨ck bc hHeld.1, ck bc hHeld.2.1, ck bc hHeld.2.2.1, ck bc hHeld.2.2.2⟩ (fun hHeld => ?_)
          clear hK K
          (try simp only [List.setIfInBounds_toArray, List.set_cons_zero, List.set_cons_succ])
          replace k_c := bk bc k_c
          replace k_n7 := bk bc k_n7
          replace bw := bs bc bw
          (try replace r1 := (r1.below bc).more bc.size)
          have Hx := Lib.hid hx0
          have Fi := Lib.hid hf0
          clear hx0 hf0
          clear bc
          refine takx (i := 5) (D := 39) (v := .tuple #[.agg #[.int .i64 (x.a % 256), .int .i64 (x.b % 256), .int .i64 (x.c % 256), .int .i64 (x.d % 256)], .bool true]) rfl rfl (by kernel_rfl) (by kernel_rfl) (by kernel_rfl) (fun _ _ _ h => h) (Or.inl ⟨by rfl, fun W hSw => by (try dsimp only at hSw); go_simp⟩) (by assumption) ?_
          (try simp only [List.setIfInBounds_toArray, List.set_cons_zero, List.set_cons_succ])
          refine takx (i := 6) (D := 45) (v := .agg #[.int .i64 (x.a % 256), .int .i64 (x.b % 256), .int .i64 (x.c % 256), .int .i64 (x.d % 256)]) rfl rfl (by kernel_rfl) (by kernel_rfl) (by kernel_rfl) (fun _ _ _ h => h) (Or.inl ⟨by rfl, fun W hSw => by (try dsimp only at hSw); go_simp⟩) (by assumption) ?_
          (try simp only [List.setIfInBounds_toArray, List.set_cons_zero, List.set_cons_succ])
          refine takx (i := 7) (D := 46) (v := .bool true) rfl rfl (by kernel_rfl) (by kernel_rfl) (by kernel_rfl) (fun _ _ _ h => h) (Or.inl ⟨by rfl, fun W hSw => by (try dsimp only at hSw); go_simp⟩) (by assumption) ?_
          (try simp only [List.setIfInBounds_toArray, List.set_cons_zero, List.set_cons_succ])
          refine wpAnyH_ready (rs := [9]) (by kernel_rfl) (by simp) ?_
          refine (AllReadyH.cons rfl (fun K hK => ?_) AllReadyH.nil)
          have qq := q4c k_n7
          go_simp
          clear qq
          refine hK.out _ _ ⟨(cks ne_c_n7 (cks ne_c_n7 (cks ne_c_n7 (cks ne_c_n7 hHeld.1)))), (cks ne_c_n7 (cks ne_c_n7 (cks ne_c_n7 (cks ne_c_n7 hHeld.2.1)))), (cks ne_c_n7 (cks ne_c_n7 (cks ne_c_n7 (cks ne_c_n7 hHeld.2.2.1)))), (cks ne_c_n7 (cks ne_c_n7 (cks ne_c_n7 (cks ne_c_n7 hHeld.2.2.2))))⟩ (fun hHeld => ?_)
          clear hK K
          (try simp only [List.setIfInBounds_toArray, List.set_cons_zero, List.set_cons_succ])
          obtain ⟨X17, eY⟩ : ∃ Y, Y = ((((X16.setCell ⟨g13, 0, none⟩ (.int .i64 (x.a % 256))).setCell ⟨g13, 1, none⟩ (.int .i64 (x.b % 256))).setCell ⟨g13, 2, none⟩ (.int .i64 (x.c % 256))).setCell ⟨g13, 3, none⟩ (.int .i64 (x.d % 256))) := ⟨_, rfl⟩
          rw [← eY] at hHeld ⊢
          replace k_c : X17.heap[w.heap.size]? = some (.cells #[.int .i64 q.a, .int .i64 q.b, .int .i64 q.c, .int .i64 q.d] 23 (0, 0)) := by rw [eY]; exact (bks ne_c_n7 (bks ne_c_n7 (bks ne_c_n7 (bks ne_c_n7 k_c))))
          replace bw : Below wr.heap.size wr X17 := by rw [eY]; exact (bss lo_n7 (bss lo_n7 (bss lo_n7 (bss lo_n7 bw))))
          replace k_n7 : X17.heap[g13]? = some (.cells #[.int .i64 (x.a % 256), .int .i64 (x.b % 256), .int .i64 (x.c % 256), .int .i64 (x.d % 256)] 25 (0, 0)) := by rw [eY]; exact q4s k_n7
          clear eY
          refine takx (i := 10) (D := 8) (v := .bool true) rfl rfl (by kernel_rfl) (by kernel_rfl) (by kernel_rfl) (fun _ _ _ h => h) (Or.inl ⟨by rfl, fun W hSw => by (try dsimp only at hSw); go_simp⟩) (by assumption) ?_
          (try simp only [List.setIfInBounds_toArray, List.set_cons_zero, List.set_cons_succ])
          refine wpAnyH_done (by kernel_rfl) ?_ _
          go_wp2_with fail
          go_meet
          exact ⟨_, i, x, rfl, rfl, k_n7, k_c, Hx, Fi, bw⟩
      case rest =>
        clear k_c bw
        obtain ⟨g, i, x, rfl, rfl, k_x, k_c, Hx, Fi, BWc⟩ := hcut
        have bw := BWc.out
        go_upto_region 9 with fail
        go_cut [9, 10] (fun sx so wx => ∃ (g2 j : Nat) (y : Q4), sx = .pointer (some ⟨g2, 0, none⟩) ∧ so = .bool true ∧ wx.heap[g2]? = some (.cells #[.int .i64 (y.a % 256), .int .i64 (y.b % 256), .int .i64 (y.c % 256), .int .i64 (y.d % 256)] 25 (0, 0)) ∧ wx.heap[g]? = some (.cells #[.int .i64 (x.a % 256), .int .i64 (x.b % 256), .int .i64 (x.c % 256), .int .i64 (x.d % 256)] 25 (0, 0)) ∧ wx.heap[w.heap.size]? = some (.cells #[.int .i64 q.a, .int .i64 q.b, .int .i64 q.c, .int .i64 q.d] 23 (0, 0)) ∧ Hid (y = qs.reverse.getD j default) ∧ Hid (First (qs.reverse.map (sdist q)) j) ∧ Hid (Below wr.heap.size wr wx))
        case first =>
          refine wp_region_held_drew (S := fun w' => w'.cell? ⟨w.heap.size, 0, none⟩ = some (.int .i64 q.a) ∧ w'.cell? ⟨w.heap.size, 1, none⟩ = some (.int .i64 q.b) ∧ w'.cell? ⟨w.heap.size, 2, none⟩ = some (.int .i64 q.c) ∧ w'.cell? ⟨w.heap.size, 3, none⟩ = some (.int .i64 q.d)) (by kernel_rfl) ⟨(q4c k_c).1.1, (q4c k_c).1.2.1, (q4c k_c).1.2.2.1, (q4c k_c).1.2.2.2⟩ ?_
          intro hHeld
          obtain ⟨X0, eX, bc⟩ : ∃ X, X = wc.drew ∧ Below wc.heap.size wc X := ⟨_, rfl, (Below.refl _ _).drew⟩
          rw [← eX] at hHeld ⊢
          replace k_c := bk bc k_c
          replace k_x := bk bc k_x
          replace bw := bs bc bw
          (try replace r1 := (r1.below bc).more bc.size)
          clear eX bc
          refine takx (i := 0) (D := 48) (v := .slice V k cv) rfl rfl (by kernel_rfl) (by kernel_rfl) (by kernel_rfl) (fun _ _ _ h => h) (Or.inl ⟨by rfl, fun W hSw => by (try dsimp only at hSw); go_simp⟩) (by assumption) ?_
          (try simp only [List.setIfInBounds_toArray, List.set_cons_zero, List.set_cons_succ])
          refine takx (i := 2) (D := 50) (v := .agg #[.int .i64 q.a, .int .i64 q.b, .int .i64 q.c, .int .i64 q.d]) rfl rfl (by kernel_rfl) (by kernel_rfl) (by kernel_rfl) (fun _ _ _ h => h) (Or.inl ⟨by rfl, fun W hSw => by (try dsimp only at hSw); go_simp⟩) (by assumption) ?_
          (try simp only [List.setIfInBounds_toArray, List.set_cons_zero, List.set_cons_succ])
          refine wpAnyH_ready (rs := [1, 8]) (by kernel_rfl) (by simp) ?_
          refine (AllReadyH.cons rfl (fun K hK => ?_) (AllReadyH.cons rfl (fun K hK => ?_) AllReadyH.nil))
          · go_simp
            refine (toColors_any k cv V qs.reverse _ ((RB.out.below bw).more bw.size)).mono ?_
            rintro e X1 ⟨A1, cp1, rfl, r1, lo1, bc⟩
            refine hK.out _ _ ⟨ck bc hHeld.1, ck bc hHeld.2.1, ck bc hHeld.2.2.1, ck bc hHeld.2.2.2⟩ (fun hHeld => ?_)
            clear hK K
            (try simp only [List.setIfInBounds_toArray, List.set_cons_zero, List.set_cons_succ])
            replace k_c := bk bc k_c
            replace k_x := bk bc k_x
            replace bw := bs bc bw
            (try replace r1 := (r1.below bc).more bc.size)
            clear bc
            refine wpAnyH_ready (rs := [3, 8]) (by kernel_rfl) (by simp) ?_
            refine (AllReadyH.cons rfl (fun K hK => ?_) (AllReadyH.cons rfl (fun K hK => ?_) AllReadyH.nil))
            · go_simp
              refine (toColor4 q.a q.b q.c q.d _).mono ?_
              rintro e X2 ⟨rfl, bc⟩
              refine hK.out _ _ ⟨ck bc hHeld.1, ck bc hHeld.2.1, ck bc hHeld.2.2.1, ck bc hHeld.2.2.2⟩ (fun hHeld => ?_)
              clear hK K
              (try simp only [List.setIfInBounds_toArray, List.set_cons_zero, List.set_cons_succ])
              replace k_c := bk bc k_c
              replace k_x := bk bc k_x
              replace bw := bs bc bw
              (try replace r1 := (r1.below bc).more bc.size)
              clear bc
              refine wpAnyH_ready (rs := [4, 8]) (by kernel_rfl) (by simp) ?_
              refine (AllReadyH.cons rfl (fun K hK => ?_) (AllReadyH.cons rfl (fun K hK => ?_) AllReadyH.nil))
              · go_simp
                refine (palConv4 k cp1 A1 qs.reverse (q.a) (q.b) (q.c) (q.d) _ r1 h0).mono ?_
                rintro e X3 ⟨j, y, rfl, hx0, hf0, bc⟩
                refine hK.out _ _ ⟨ck bc hHeld.1, ck bc hHeld.2.1, ck bc hHeld.2.2.1, ck bc hHeld.2.2.2⟩ (fun hHeld => ?_)
                clear hK K
                (try simp only [List.setIfInBounds_toArray, List.set_cons_zero, List.set_cons_succ])
                replace k_c := bk bc k_c
                replace k_x := bk bc k_x
                replace bw := bs bc bw
                (try replace r1 := (r1.below bc).more bc.size)
                have Hy := Lib.hid hx0
                have Fj := Lib.hid hf0
                clear hx0 hf0
                clear bc
                refine takx (i := 5) (D := 47) (v := .tuple #[.agg #[.int .i64 (y.a % 256), .int .i64 (y.b % 256), .int .i64 (y.c % 256), .int .i64 (y.d % 256)], .bool true]) rfl rfl (by kernel_rfl) (by kernel_rfl) (by kernel_rfl) (fun _ _ _ h => h) (Or.inl ⟨by rfl, fun W hSw => by (try dsimp only at hSw); go_simp⟩) (by assumption) ?_
                (try simp only [List.setIfInBounds_toArray, List.set_cons_zero, List.set_cons_succ])
                refine takx (i := 6) (D := 53) (v := .agg #[.int .i64 (y.a % 256), .int .i64 (y.b % 256), .int .i64 (y.c % 256), .int .i64 (y.d % 256)]) rfl rfl (by kernel_rfl) (by kernel_rfl) (by kernel_rfl) (fun _ _ _ h => h) (Or.inl ⟨by rfl, fun W hSw => by (try dsimp only at hSw); go_simp⟩) (by assumption) ?_
                (try simp only [List.setIfInBounds_toArray, List.set_cons_zero, List.set_cons_succ])
                refine takx (i := 7) (D := 54) (v := .bool true) rfl rfl (by kernel_rfl) (by kernel_rfl) (by kernel_rfl) (fun _ _ _ h => h) (Or.inl ⟨by rfl, fun W hSw => by (try dsimp only at hSw); go_simp⟩) (by assumption) ?_
                (try simp only [List.setIfInBounds_toArray, List.set_cons_zero, List.set_cons_succ])
                refine wpAnyH_ready (rs := [8]) (by kernel_rfl) (by simp) ?_
                refine (AllReadyH.cons rfl (fun K hK => ?_) AllReadyH.nil)
                go_simp
                refine hK.out _ _ ⟨cka hHeld.1, cka hHeld.2.1, cka hHeld.2.2.1, cka hHeld.2.2.2⟩ (fun hHeld => ?_)
                clear hK K
                (try simp only [List.setIfInBounds_toArray, List.set_cons_zero, List.set_cons_succ])
                obtain ⟨X4, g4, eY, eg⟩ : ∃ Y g, Y = X3.alloc (.cells #[.int .i64 0, .int .i64 0, .int .i64 0, .int .i64 0] 25) ∧ g = X3.heap.size := ⟨_, _, rfl, rfl⟩
                rw [← eY, ← eg]
                rw [← eY] at hHeld
                have bc : Below X3.heap.size X3 X4 := by rw [eY]; exact (Below.refl _ _).alloc (Nat.le_refl _) _
                have k_n9 : X4.heap[g4]? = some (.cells #[.int .i64 0, .int .i64 0, .int .i64 0, .int .i64 0] 25 (0, 0)) := by rw [eY, eg]; exact heap_alloc_new X3 _
                have lo_n9 : wr.heap.size ≤ g4 := by rw [eg]; exact bw.size
                have ne_c_n9 : ¬ w.heap.size = g4 := ne_new k_c eg
                have ne_x_n9 : ¬ g = g4 := ne_new k_x eg
                replace k_c := bk bc k_c
                replace k_x := bk bc k_x
                replace bw := bs bc bw
                (try replace r1 := (r1.below bc).more bc.size)
                clear bc eY eg
                refine wpAnyH_ready (rs := [9]) (by kernel_rfl) (by simp) ?_
                refine (AllReadyH.cons rfl (fun K hK => ?_) AllReadyH.nil)
                have qq := q4c k_n9
                go_simp
                clear qq
                refine hK.out _ _ ⟨(cks ne_c_n9 (cks ne_c_n9 (cks ne_c_n9 (cks ne_c_n9 hHeld.1)))), (cks ne_c_n9 (cks ne_c_n9 (cks ne_c_n9 (cks ne_c_n9 hHeld.2.1)))), (cks ne_c_n9 (cks ne_c_n9 (cks ne_c_n9 (cks ne_c_n9 hHeld.2.2.1)))), (cks ne_c_n9 (cks ne_c_n9 (cks ne_c_n9 (cks ne_c_n9 hHeld.2.2.2))))⟩ (fun hHeld => ?_)
                clear hK K
                (try simp only [List.setIfInBounds_toArray, List.set_cons_zero, List.set_cons_succ])
                obtain ⟨X5, eY⟩ : ∃ Y, Y = ((((X4.setCell ⟨g4, 0, none⟩ (.int .i64 (y.a % 256))).setCell ⟨g4, 1, none⟩ (.int .i64 (y.b % 256))).setCell ⟨g4, 2, none⟩ (.int .i64 (y.c % 256))).setCell ⟨g4, 3, none⟩ (.int .i64 (y.d % 256))) := ⟨_, rfl⟩
                rw [← eY] at hHeld ⊢
                replace k_c : X5.heap[w.heap.size]? = some (.cells #[.int .i64 q.a, .int .i64 q.b, .int .i64 q.c, .int .i64 q.d] 23 (0, 0)) := by rw [eY]; exact (bks ne_c_n9 (bks ne_c_n9 (bks ne_c_n9 (bks ne_c_n9 k_c))))
                replace k_x : X5.heap[g]? = some (.cells #[.int .i64 (x.a % 256), .int .i64 (x.b % 256), .int .i64 (x.c % 256), .int .i64 (x.d % 256)] 25 (0, 0)) := by rw [eY]; exact (bks ne_x_n9 (bks ne_x_n9 (bks ne_x_n9 (bks ne_x_n9 k_x))))
                replace bw : Below wr.heap.size wr X5 := by rw [eY]; exact (bss lo_n9 (bss lo_n9 (bss lo_n9 (bss lo_n9 bw))))
                replace k_n9 : X5.heap[g4]? = some (.cells #[.int .i64 (y.a % 256), .int .i64 (y.b % 256), .int .i64 (y.c % 256), .int .i64 (y.d % 256)] 25 (0, 0)) := by rw [eY]; exact q4s k_n9
                clear eY
                refine takx (i := 10) (D := 10) (v := .bool true) rfl rfl (by kernel_rfl) (by kernel_rfl) (by kernel_rfl) (fun _ _ _ h => h) (Or.inl ⟨by rfl, fun W hSw => by (try dsimp only at hSw); go_simp⟩) (by assumption) ?_
                (try simp only [List.setIfInBounds_toArray, List.set_cons_zero, List.set_cons_succ])
                refine wpAnyH_done (by kernel_rfl) ?_ _
                go_wp2_with fail
                go_meet
                exact ⟨_, j, y, rfl, rfl, k_n9, k_x, k_c, Hy, Fj, bw⟩
              · go_simp
                refine hK.out _ _ ⟨cka hHeld.1, cka hHeld.2.1, cka hHeld.2.2.1, cka hHeld.2.2.2⟩ (fun hHeld => ?_)
                clear hK K
                (try simp only [List.setIfInBounds_toArray, List.set_cons_zero, List.set_cons_succ])
                obtain ⟨X6, g6, eY, eg⟩ : ∃ Y g, Y = X2.alloc (.cells #[.int .i64 0, .int .i64 0, .int .i64 0, .int .i64 0] 25) ∧ g = X2.heap.size := ⟨_, _, rfl, rfl⟩
                rw [← eY, ← eg]
                rw [← eY] at hHeld
                have bc : Below X2.heap.size X2 X6 := by rw [eY]; exact (Below.refl _ _).alloc (Nat.le_refl _) _
                have k_n9 : X6.heap[g6]? = some (.cells #[.int .i64 0, .int .i64 0, .int .i64 0, .int .i64 0] 25 (0, 0)) := by rw [eY, eg]; exact heap_alloc_new X2 _
                have lo_n9 : wr.heap.size ≤ g6 := by rw [eg]; exact bw.size
                have ne_c_n9 : ¬ w.heap.size = g6 := ne_new k_c eg
                have ne_x_n9 : ¬ g = g6 := ne_new k_x eg
                replace k_c := bk bc k_c
                replace k_x := bk bc k_x
                replace bw := bs bc bw
                (try replace r1 := (r1.below bc).more bc.size)
                clear bc eY eg
                refine wpAnyH_ready (rs := [4]) (by kernel_rfl) (by simp) ?_
                refine (AllReadyH.cons rfl (fun K hK => ?_) AllReadyH.nil)
                go_simp
                refine (palConv4 k cp1 A1 qs.reverse (q.a) (q.b) (q.c) (q.d) _ r1 h0).mono ?_
                rintro e X7 ⟨j, y, rfl, hx0, hf0, bc⟩
                refine hK.out _ _ ⟨ck bc hHeld.1, ck bc hHeld.2.1, ck bc hHeld.2.2.1, ck bc hHeld.2.2.2⟩ (fun hHeld => ?_)
                clear hK K
                (try simp only [List.setIfInBounds_toArray, List.set_cons_zero, List.set_cons_succ])
                replace k_c := bk bc k_c
                replace k_x := bk bc k_x
                replace k_n9 := bk bc k_n9
                replace bw := bs bc bw
                (try replace r1 := (r1.below bc).more bc.size)
                have Hy := Lib.hid hx0
                have Fj := Lib.hid hf0
                clear hx0 hf0
                clear bc
                refine takx (i := 5) (D := 47) (v := .tuple #[.agg #[.int .i64 (y.a % 256), .int .i64 (y.b % 256), .int .i64 (y.c % 256), .int .i64 (y.d % 256)], .bool true]) rfl rfl (by kernel_rfl) (by kernel_rfl) (by kernel_rfl) (fun _ _ _ h => h) (Or.inl ⟨by rfl, fun W hSw => by (try dsimp only at hSw); go_simp⟩) (by assumption) ?_
                (try simp only [List.setIfInBounds_toArray, List.set_cons_zero, List.set_cons_succ])
                refine takx (i := 6) (D := 53) (v := .agg #[.int .i64 (y.a % 256), .int .i64 (y.b % 256), .int .i64 (y.c % 256), .int .i64 (y.d % 256)]) rfl rfl (by kernel_rfl) (by kernel_rfl) (by kernel_rfl) (fun _ _ _ h => h) (Or.inl ⟨by rfl, fun W hSw => by (try dsimp only at hSw); go_simp⟩) (by assumption) ?_
                (try simp only [List.setIfInBounds_toArray, List.set_cons_zero, List.set_cons_succ])
                refine takx (i := 7) (D := 54) (v := .bool true) rfl rfl (by kernel_rfl) (by kernel_rfl) (by kernel_rfl) (fun _ _ _ h => h) (Or.inl ⟨by rfl, fun W hSw => by (try dsimp only at hSw); go_simp⟩) (by assumption) ?_
                (try simp only [List.setIfInBounds_toArray, List.set_cons_zero, List.set_cons_succ])
                refine wpAnyH_ready (rs := [9]) (by kernel_rfl) (by simp) ?_
                refine (AllReadyH.cons rfl (fun K hK => ?_) AllReadyH.nil)
                have qq := q4c k_n9
                go_simp
                clear qq
                refine hK.out _ _ ⟨(cks ne_c_n9 (cks ne_c_n9 (cks ne_c_n9 (cks ne_c_n9 hHeld.1)))), (cks ne_c_n9 (cks ne_c_n9 (cks ne_c_n9 (cks ne_c_n9 hHeld.2.1)))), (cks ne_c_n9 (cks ne_c_n9 (cks ne_c_n9 (cks ne_c_n9 hHeld.2.2.1)))), (cks ne_c_n9 (cks ne_c_n9 (cks ne_c_n9 (cks ne_c_n9 hHeld.2.2.2))))⟩ (fun hHeld => ?_)
                clear hK K
                (try simp only [List.setIfInBounds_toArray, List.set_cons_zero, List.set_cons_succ])
                obtain ⟨X8, eY⟩ : ∃ Y, Y = ((((X7.setCell ⟨g6, 0, none⟩ (.int .i64 (y.a % 256))).setCell ⟨g6, 1, none⟩ (.int .i64 (y.b % 256))).setCell ⟨g6, 2, none⟩ (.int .i64 (y.c % 256))).setCell ⟨g6, 3, none⟩ (.int .i64 (y.d % 256))) := ⟨_, rfl⟩
                rw [← eY] at hHeld ⊢
                replace k_c : X8.heap[w.heap.size]? = some (.cells #[.int .i64 q.a, .int .i64 q.b, .int .i64 q.c, .int .i64 q.d] 23 (0, 0)) := by rw [eY]; exact (bks ne_c_n9 (bks ne_c_n9 (bks ne_c_n9 (bks ne_c_n9 k_c))))
                replace k_x : X8.heap[g]? = some (.cells #[.int .i64 (x.a % 256), .int .i64 (x.b % 256), .int .i64 (x.c % 256), .int .i64 (x.d % 256)] 25 (0, 0)) := by rw [eY]; exact (bks ne_x_n9 (bks ne_x_n9 (bks ne_x_n9 (bks ne_x_n9 k_x))))
                replace bw : Below wr.heap.size wr X8 := by rw [eY]; exact (bss lo_n9 (bss lo_n9 (bss lo_n9 (bss lo_n9 bw))))
                replace k_n9 : X8.heap[g6]? = some (.cells #[.int .i64 (y.a % 256), .int .i64 (y.b % 256), .int .i64 (y.c % 256), .int .i64 (y.d % 256)] 25 (0, 0)) := by rw [eY]; exact q4s k_n9
                clear eY
                refine takx (i := 10) (D := 10) (v := .bool true) rfl rfl (by kernel_rfl) (by kernel_rfl) (by kernel_rfl) (fun _ _ _ h => h) (Or.inl ⟨by rfl, fun W hSw => by (try dsimp only at hSw); go_simp⟩) (by assumption) ?_
                (try simp only [List.setIfInBounds_toArray, List.set_cons_zero, List.set_cons_succ])
                refine wpAnyH_done (by kernel_rfl) ?_ _
                go_wp2_with fail
                go_meet
                exact ⟨_, j, y, rfl, rfl, k_n9, k_x, k_c, Hy, Fj, bw⟩
            · go_simp
              refine hK.out _ _ ⟨cka hHeld.1, cka hHeld.2.1, cka hHeld.2.2.1, cka hHeld.2.2.2⟩ (fun hHeld => ?_)
              clear hK K
              (try simp only [List.setIfInBounds_toArray, List.set_cons_zero, List.set_cons_succ])
              obtain ⟨X9, g9, eY, eg⟩ : ∃ Y g, Y = X1.alloc (.cells #[.int .i64 0, .int .i64 0, .int .i64 0, .int .i64 0] 25) ∧ g = X1.heap.size := ⟨_, _, rfl, rfl⟩
              rw [← eY, ← eg]
              rw [← eY] at hHeld
              have bc : Below X1.heap.size X1 X9 := by rw [eY]; exact (Below.refl _ _).alloc (Nat.le_refl _) _
              have k_n9 : X9.heap[g9]? = some (.cells #[.int .i64 0, .int .i64 0, .int .i64 0, .int .i64 0] 25 (0, 0)) := by rw [eY, eg]; exact heap_alloc_new X1 _
              have lo_n9 : wr.heap.size ≤ g9 := by rw [eg]; exact bw.size
              have ne_c_n9 : ¬ w.heap.size = g9 := ne_new k_c eg
              have ne_x_n9 : ¬ g = g9 := ne_new k_x eg
              replace k_c := bk bc k_c
              replace k_x := bk bc k_x
              replace bw := bs bc bw
              (try replace r1 := (r1.below bc).more bc.size)
              clear bc eY eg
              refine wpAnyH_ready (rs := [3]) (by kernel_rfl) (by simp) ?_
              refine (AllReadyH.cons rfl (fun K hK => ?_) AllReadyH.nil)
              go_simp
              refine (toColor4 q.a q.b q.c q.d _).mono ?_
              rintro e X10 ⟨rfl, bc⟩
              refine hK.out _ _ ⟨ck bc hHeld.1, ck bc hHeld.2.1, ck bc hHeld.2.2.1, ck bc hHeld.2.2.2⟩ (fun hHeld => ?_)
              clear hK K
              (try simp only [List.setIfInBounds_toArray, List.set_cons_zero, List.set_cons_succ])
              replace k_c := bk bc k_c
              replace k_x := bk bc k_x
              replace k_n9 := bk bc k_n9
              replace bw := bs bc bw
              (try replace r1 := (r1.below bc).more bc.size)
              clear bc
              refine wpAnyH_ready (rs := [4]) (by kernel_rfl) (by simp) ?_
              refine (AllReadyH.cons rfl (fun K hK => ?_) AllReadyH.nil)
              go_simp
              refine (palConv4 k cp1 A1 qs.reverse (q.a) (q.b) (q.c) (q.d) _ r1 h0).mono ?_
              rintro e X11 ⟨j, y, rfl, hx0, hf0, bc⟩
              refine hK.out _ _ ⟨ck bc hHeld.1, ck bc hHeld.2.1, ck bc hHeld.2.2.1, ck bc hHeld.2.2.2⟩ (fun hHeld => ?_)
              clear hK K
              (try simp only [List.setIfInBounds_toArray, List.set_cons_zero, List.set_cons_succ])
              replace k_c := bk bc k_c
              replace k_x := bk bc k_x
              replace k_n9 := bk bc k_n9
              replace bw := bs bc bw
              (try replace r1 := (r1.below bc).more bc.size)
              have Hy := Lib.hid hx0
              have Fj := Lib.hid hf0
              clear hx0 hf0
              clear bc
              refine takx (i := 5) (D := 47) (v := .tuple #[.agg #[.int .i64 (y.a % 256), .int .i64 (y.b % 256), .int .i64 (y.c % 256), .int .i64 (y.d % 256)], .bool true]) rfl rfl (by kernel_rfl) (by kernel_rfl) (by kernel_rfl) (fun _ _ _ h => h) (Or.inl ⟨by rfl, fun W hSw => by (try dsimp only at hSw); go_simp⟩) (by assumption) ?_
              (try simp only [List.setIfInBounds_toArray, List.set_cons_zero, List.set_cons_succ])
              refine takx (i := 6) (D := 53) (v := .agg #[.int .i64 (y.a % 256), .int .i64 (y.b % 256), .int .i64 (y.c % 256), .int .i64 (y.d % 256)]) rfl rfl (by kernel_rfl) (by kernel_rfl) (by kernel_rfl) (fun _ _ _ h => h) (Or.inl ⟨by rfl, fun W hSw => by (try dsimp only at hSw); go_simp⟩) (by assumption) ?_
              (try simp only [List.setIfInBounds_toArray, List.set_cons_zero, List.set_cons_succ])
              refine takx (i := 7) (D := 54) (v := .bool true) rfl rfl (by kernel_rfl) (by kernel_rfl) (by kernel_rfl) (fun _ _ _ h => h) (Or.inl ⟨by rfl, fun W hSw => by (try dsimp only at hSw); go_simp⟩) (by assumption) ?_
              (try simp only [List.setIfInBounds_toArray, List.set_cons_zero, List.set_cons_succ])
              refine wpAnyH_ready (rs := [9]) (by kernel_rfl) (by simp) ?_
              refine (AllReadyH.cons rfl (fun K hK => ?_) AllReadyH.nil)
              have qq := q4c k_n9
              go_simp
              clear qq
              refine hK.out _ _ ⟨(cks ne_c_n9 (cks ne_c_n9 (cks ne_c_n9 (cks ne_c_n9 hHeld.1)))), (cks ne_c_n9 (cks ne_c_n9 (cks ne_c_n9 (cks ne_c_n9 hHeld.2.1)))), (cks ne_c_n9 (cks ne_c_n9 (cks ne_c_n9 (cks ne_c_n9 hHeld.2.2.1)))), (cks ne_c_n9 (cks ne_c_n9 (cks ne_c_n9 (cks ne_c_n9 hHeld.2.2.2))))⟩ (fun hHeld => ?_)
              clear hK K
              (try simp only [List.setIfInBounds_toArray, List.set_cons_zero, List.set_cons_succ])
              obtain ⟨X12, eY⟩ : ∃ Y, Y = ((((X11.setCell ⟨g9, 0, none⟩ (.int .i64 (y.a % 256))).setCell ⟨g9, 1, none⟩ (.int .i64 (y.b % 256))).setCell ⟨g9, 2, none⟩ (.int .i64 (y.c % 256))).setCell ⟨g9, 3, none⟩ (.int .i64 (y.d % 256))) := ⟨_, rfl⟩
              rw [← eY] at hHeld ⊢
              replace k_c : X12.heap[w.heap.size]? = some (.cells #[.int .i64 q.a, .int .i64 q.b, .int .i64 q.c, .int .i64 q.d] 23 (0, 0)) := by rw [eY]; exact (bks ne_c_n9 (bks ne_c_n9 (bks ne_c_n9 (bks ne_c_n9 k_c))))
              replace k_x : X12.heap[g]? = some (.cells #[.int .i64 (x.a % 256), .int .i64 (x.b % 256), .int .i64 (x.c % 256), .int .i64 (x.d % 256)] 25 (0, 0)) := by rw [eY]; exact (bks ne_x_n9 (bks ne_x_n9 (bks ne_x_n9 (bks ne_x_n9 k_x))))
              replace bw : Below wr.heap.size wr X12 := by rw [eY]; exact (bss lo_n9 (bss lo_n9 (bss lo_n9 (bss lo_n9 bw))))
              replace k_n9 : X12.heap[g9]? = some (.cells #[.int .i64 (y.a % 256), .int .i64 (y.b % 256), .int .i64 (y.c % 256), .int .i64 (y.d % 256)] 25 (0, 0)) := by rw [eY]; exact q4s k_n9
              clear eY
              refine takx (i := 10) (D := 10) (v := .bool true) rfl rfl (by kernel_rfl) (by kernel_rfl) (by kernel_rfl) (fun _ _ _ h => h) (Or.inl ⟨by rfl, fun W hSw => by (try dsimp only at hSw); go_simp⟩) (by assumption) ?_
              (try simp only [List.setIfInBounds_toArray, List.set_cons_zero, List.set_cons_succ])
              refine wpAnyH_done (by kernel_rfl) ?_ _
              go_wp2_with fail
              go_meet
              exact ⟨_, j, y, rfl, rfl, k_n9, k_x, k_c, Hy, Fj, bw⟩
          · go_simp
            refine hK.out _ _ ⟨cka hHeld.1, cka hHeld.2.1, cka hHeld.2.2.1, cka hHeld.2.2.2⟩ (fun hHeld => ?_)
            clear hK K
            (try simp only [List.setIfInBounds_toArray, List.set_cons_zero, List.set_cons_succ])
            obtain ⟨X13, g13, eY, eg⟩ : ∃ Y g, Y = X0.alloc (.cells #[.int .i64 0, .int .i64 0, .int .i64 0, .int .i64 0] 25) ∧ g = X0.heap.size := ⟨_, _, rfl, rfl⟩
            rw [← eY, ← eg]
            rw [← eY] at hHeld
            have bc : Below X0.heap.size X0 X13 := by rw [eY]; exact (Below.refl _ _).alloc (Nat.le_refl _) _
            have k_n9 : X13.heap[g13]? = some (.cells #[.int .i64 0, .int .i64 0, .int .i64 0, .int .i64 0] 25 (0, 0)) := by rw [eY, eg]; exact heap_alloc_new X0 _
            have lo_n9 : wr.heap.size ≤ g13 := by rw [eg]; exact bw.size
            have ne_c_n9 : ¬ w.heap.size = g13 := ne_new k_c eg
            have ne_x_n9 : ¬ g = g13 := ne_new k_x eg
            replace k_c := bk bc k_c
            replace k_x := bk bc k_x
            replace bw := bs bc bw
            (try replace r1 := (r1.below bc).more bc.size)
            clear bc eY eg
            refine wpAnyH_ready (rs := [1]) (by kernel_rfl) (by simp) ?_
            refine (AllReadyH.cons rfl (fun K hK => ?_) AllReadyH.nil)
            go_simp
            refine (toColors_any k cv V qs.reverse _ ((RB.out.below bw).more bw.size)).mono ?_
            rintro e X14 ⟨A1, cp1, rfl, r1, lo1, bc⟩
            refine hK.out _ _ ⟨ck bc hHeld.1, ck bc hHeld.2.1, ck bc hHeld.2.2.1, ck bc hHeld.2.2.2⟩ (fun hHeld => ?_)
            clear hK K
            (try simp only [List.setIfInBounds_toArray, List.set_cons_zero, List.set_cons_succ])
            replace k_c := bk bc k_c
            replace k_x := bk bc k_x
            replace k_n9 := bk bc k_n9
            replace bw := bs bc bw
            (try replace r1 := (r1.below bc).more bc.size)
            clear bc
            refine wpAnyH_ready (rs := [3]) (by kernel_rfl) (by simp) ?_
            refine (AllReadyH.cons rfl (fun K hK => ?_) AllReadyH.nil)
            go_simp
            refine (toColor4 q.a q.b q.c q.d _).mono ?_
            rintro e X15 ⟨rfl, bc⟩
            refine hK.out _ _ ⟨ck bc hHeld.1, ck bc hHeld.2.1, ck bc hHeld.2.2.1, ck bc hHeld.2.2.2⟩ (fun hHeld => ?_)
            clear hK K
            (try simp only [List.setIfInBounds_toArray, List.set_cons_zero, List.set_cons_succ])
            replace k_c := bk bc k_c
            replace k_x := bk bc k_x
            replace k_n9 := bk bc k_n9
            replace bw := bs bc bw
            (try replace r1 := (r1.below bc).more bc.size)
            clear bc
            refine wpAnyH_ready (rs := [4]) (by kernel_rfl) (by simp) ?_
            refine (AllReadyH.cons rfl (fun K hK => ?_) AllReadyH.nil)
            go_simp
            refine (palConv4 k cp1 A1 qs.reverse (q.a) (q.b) (q.c) (q.d) _ r1 h0).mono ?_
            rintro e X16 ⟨j, y, rfl, hx0, hf0, bc⟩
            refine hK.out _ _ ⟨ck bc hHeld.1, ck bc hHeld.2.1, ck bc hHeld.2.2.1, ck bc hHeld.2.2.2⟩ (fun hHeld => ?_)
            clear hK K
            (try simp only [List.setIfInBounds_toArray, List.set_cons_zero, List.set_cons_succ])
            replace k_c := bk bc k_c
            replace k_x := bk bc k_x
            replace k_n9 := bk bc k_n9
            replace bw := bs bc bw
            (try replace r1 := (r1.below bc).more bc.size)
            have Hy := Lib.hid hx0
            have Fj := Lib.hid hf0
            clear hx0 hf0
            clear bc
            refine takx (i := 5) (D := 47) (v := .tuple #[.agg #[.int .i64 (y.a % 256), .int .i64 (y.b % 256), .int .i64 (y.c % 256), .int .i64 (y.d % 256)], .bool true]) rfl rfl (by kernel_rfl) (by kernel_rfl) (by kernel_rfl) (fun _ _ _ h => h) (Or.inl ⟨by rfl, fun W hSw => by (try dsimp only at hSw); go_simp⟩) (by assumption) ?_
            (try simp only [List.setIfInBounds_toArray, List.set_cons_zero, List.set_cons_succ])
            refine takx (i := 6) (D := 53) (v := .agg #[.int .i64 (y.a % 256), .int .i64 (y.b % 256), .int .i64 (y.c % 256), .int .i64 (y.d % 256)]) rfl rfl (by kernel_rfl) (by kernel_rfl) (by kernel_rfl) (fun _ _ _ h => h) (Or.inl ⟨by rfl, fun W hSw => by (try dsimp only at hSw); go_simp⟩) (by assumption) ?_
            (try simp only [List.setIfInBounds_toArray, List.set_cons_zero, List.set_cons_succ])
            refine takx (i := 7) (D := 54) (v := .bool true) rfl rfl (by kernel_rfl) (by kernel_rfl) (by kernel_rfl) (fun _ _ _ h => h) (Or.inl ⟨by rfl, fun W hSw => by (try dsimp only at hSw); go_simp⟩) (by assumption) ?_
            (try simp only [List.setIfInBounds_toArray, List.set_cons_zero, List.set_cons_succ])
            refine wpAnyH_ready (rs := [9]) (by kernel_rfl) (by simp) ?_
            refine (AllReadyH.cons rfl (fun K hK => ?_) AllReadyH.nil)
            have qq := q4c k_n9
            go_simp
            clear qq
            refine hK.out _ _ ⟨(cks ne_c_n9 (cks ne_c_n9 (cks ne_c_n9 (cks ne_c_n9 hHeld.1)))), (cks ne_c_n9 (cks ne_c_n9 (cks ne_c_n9 (cks ne_c_n9 hHeld.2.1)))), (cks ne_c_n9 (cks ne_c_n9 (cks ne_c_n9 (cks ne_c_n9 hHeld.2.2.1)))), (cks ne_c_n9 (cks ne_c_n9 (cks ne_c_n9 (cks ne_c_n9 hHeld.2.2.2))))⟩ (fun hHeld => ?_)
            clear hK K
            (try simp only [List.setIfInBounds_toArray, List.set_cons_zero, List.set_cons_succ])
            obtain ⟨X17, eY⟩ : ∃ Y, Y = ((((X16.setCell ⟨g13, 0, none⟩ (.int .i64 (y.a % 256))).setCell ⟨g13, 1, none⟩ (.int .i64 (y.b % 256))).setCell ⟨g13, 2, none⟩ (.int .i64 (y.c % 256))).setCell ⟨g13, 3, none⟩ (.int .i64 (y.d % 256))) := ⟨_, rfl⟩
            rw [← eY] at hHeld ⊢
            replace k_c : X17.heap[w.heap.size]? = some (.cells #[.int .i64 q.a, .int .i64 q.b, .int .i64 q.c, .int .i64 q.d] 23 (0, 0)) := by rw [eY]; exact (bks ne_c_n9 (bks ne_c_n9 (bks ne_c_n9 (bks ne_c_n9 k_c))))
            replace k_x : X17.heap[g]? = some (.cells #[.int .i64 (x.a % 256), .int .i64 (x.b % 256), .int .i64 (x.c % 256), .int .i64 (x.d % 256)] 25 (0, 0)) := by rw [eY]; exact (bks ne_x_n9 (bks ne_x_n9 (bks ne_x_n9 (bks ne_x_n9 k_x))))
            replace bw : Below wr.heap.size wr X17 := by rw [eY]; exact (bss lo_n9 (bss lo_n9 (bss lo_n9 (bss lo_n9 bw))))
            replace k_n9 : X17.heap[g13]? = some (.cells #[.int .i64 (y.a % 256), .int .i64 (y.b % 256), .int .i64 (y.c % 256), .int .i64 (y.d % 256)] 25 (0, 0)) := by rw [eY]; exact q4s k_n9
            clear eY
            refine takx (i := 10) (D := 10) (v := .bool true) rfl rfl (by kernel_rfl) (by kernel_rfl) (by kernel_rfl) (fun _ _ _ h => h) (Or.inl ⟨by rfl, fun W hSw => by (try dsimp only at hSw); go_simp⟩) (by assumption) ?_
            (try simp only [List.setIfInBounds_toArray, List.set_cons_zero, List.set_cons_succ])
            refine wpAnyH_done (by kernel_rfl) ?_ _
            go_wp2_with fail
            go_meet
            exact ⟨_, j, y, rfl, rfl, k_n9, k_x, k_c, Hy, Fj, bw⟩
        case rest =>
          clear k_c bw k_x
          obtain ⟨g2, j, y, rfl, rfl, k_y, k_x, k_c, Hy, Fj, BWd⟩ := hcut
          have bw := BWd.out
          have hl := HR.out.1
          have N1 := near_of_first H5.out HOpq.out Fi.out
          have N2 := near_of_first H5.out HOr.out Fj.out
          have hxm : x ∈ qs := first_mem Fi.out (by omega) Hx.out
          have hym : y ∈ qs.reverse := first_mem Fj.out (by rw [List.length_reverse]; omega) Hy.out
          have d1 : dist x q ≤ dist y q := by rw [Hx.out]; exact N1.least (List.mem_reverse.1 hym)
          have d2 : dist y q ≤ dist x q := by rw [Hy.out]; exact N2.least (List.mem_reverse.2 hxm)
          have heq : (dist x q == dist y q) = true := by simp; omega
          clear d1 d2 N1 N2 hxm hym hl
          go_upto_region 10 with fail
          refine wp_region_held_drew (S := fun w' => w'.cell? ⟨w.heap.size, 0, none⟩ = some (.int .i64 q.a) ∧ w'.cell? ⟨w.heap.size, 1, none⟩ = some (.int .i64 q.b) ∧ w'.cell? ⟨w.heap.size, 2, none⟩ = some (.int .i64 q.c) ∧ w'.cell? ⟨w.heap.size, 3, none⟩ = some (.int .i64 q.d) ∧ w'.cell? ⟨g, 0, none⟩ = some (.int .i64 (x.a % 256)) ∧ w'.cell? ⟨g, 1, none⟩ = some (.int .i64 (x.b % 256)) ∧ w'.cell? ⟨g, 2, none⟩ = some (.int .i64 (x.c % 256)) ∧ w'.cell? ⟨g, 3, none⟩ = some (.int .i64 (x.d % 256)) ∧ w'.cell? ⟨g2, 0, none⟩ = some (.int .i64 (y.a % 256)) ∧ w'.cell? ⟨g2, 1, none⟩ = some (.int .i64 (y.b % 256)) ∧ w'.cell? ⟨g2, 2, none⟩ = some (.int .i64 (y.c % 256)) ∧ w'.cell? ⟨g2, 3, none⟩ = some (.int .i64 (y.d % 256))) (by kernel_rfl) ⟨(q4c k_c).1.1, (q4c k_c).1.2.1, (q4c k_c).1.2.2.1, (q4c k_c).1.2.2.2, (q4c k_x).1.1, (q4c k_x).1.2.1, (q4c k_x).1.2.2.1, (q4c k_x).1.2.2.2, (q4c k_y).1.1, (q4c k_y).1.2.1, (q4c k_y).1.2.2.1, (q4c k_y).1.2.2.2⟩ ?_
          intro hHeld
          obtain ⟨X0, eX, bc⟩ : ∃ X, X = wc.drew ∧ Below wc.heap.size wc X := ⟨_, rfl, (Below.refl _ _).drew⟩
          rw [← eX] at hHeld ⊢
          replace k_c := bk bc k_c
          replace k_x := bk bc k_x
          replace k_y := bk bc k_y
          replace bw := bs bc bw
          clear eX bc
          refine takx (i := 0) (D := 55) (v := .bool true) rfl rfl (by kernel_rfl) (by kernel_rfl) (by kernel_rfl) (fun _ _ _ h => h) (Or.inl ⟨by rfl, fun W hSw => by (try dsimp only at hSw); go_simp⟩) (by assumption) ?_
          (try simp only [List.setIfInBounds_toArray, List.set_cons_zero, List.set_cons_succ])
          refine takx (i := 1) (D := 56) (v := .bool true) rfl rfl (by kernel_rfl) (by kernel_rfl) (by kernel_rfl) (fun _ _ _ h => h) (Or.inl ⟨by rfl, fun W hSw => by (try dsimp only at hSw); go_simp⟩) (by assumption) ?_
          (try simp only [List.setIfInBounds_toArray, List.set_cons_zero, List.set_cons_succ])
          refine takx (i := 2) (D := 57) (v := .bool true) rfl rfl (by kernel_rfl) (by kernel_rfl) (by kernel_rfl) (fun _ _ _ h => h) (Or.inl ⟨by rfl, fun W hSw => by (try dsimp only at hSw); go_simp⟩) (by assumption) ?_
          (try simp only [List.setIfInBounds_toArray, List.set_cons_zero, List.set_cons_succ])
          refine takx (i := 3) (D := 58) (v := .bool true) rfl rfl (by kernel_rfl) (by kernel_rfl) (by kernel_rfl) (fun _ _ _ h => h) (Or.inl ⟨by rfl, fun W hSw => by (try dsimp only at hSw); go_simp⟩) (by assumption) ?_
          (try simp only [List.setIfInBounds_toArray, List.set_cons_zero, List.set_cons_succ])
          refine takx (i := 4) (D := 59) (v := .bool true) rfl rfl (by kernel_rfl) (by kernel_rfl) (by kernel_rfl) (fun _ _ _ h => h) (Or.inl ⟨by rfl, fun W hSw => by (try dsimp only at hSw); go_simp⟩) (by assumption) ?_
          (try simp only [List.setIfInBounds_toArray, List.set_cons_zero, List.set_cons_succ])
          refine takx (i := 5) (D := 60) (v := .agg #[.int .i64 (x.a % 256), .int .i64 (x.b % 256), .int .i64 (x.c % 256), .int .i64 (x.d % 256)]) rfl rfl (by kernel_rfl) (by kernel_rfl) (by kernel_rfl) (fun _ _ _ h => h) (Or.inl ⟨by rfl, fun W hSw => by (try dsimp only at hSw); go_simp⟩) (by assumption) ?_
          (try simp only [List.setIfInBounds_toArray, List.set_cons_zero, List.set_cons_succ])
          refine takx (i := 6) (D := 61) (v := .agg #[.int .i64 q.a, .int .i64 q.b, .int .i64 q.c, .int .i64 q.d]) rfl rfl (by kernel_rfl) (by kernel_rfl) (by kernel_rfl) (fun _ _ _ h => h) (Or.inl ⟨by rfl, fun W hSw => by (try dsimp only at hSw); go_simp⟩) (by assumption) ?_
          (try simp only [List.setIfInBounds_toArray, List.set_cons_zero, List.set_cons_succ])
          refine takx (i := 9) (D := 64) (v := .agg #[.int .i64 (y.a % 256), .int .i64 (y.b % 256), .int .i64 (y.c % 256), .int .i64 (y.d % 256)]) rfl rfl (by kernel_rfl) (by kernel_rfl) (by kernel_rfl) (fun _ _ _ h => h) (Or.inl ⟨by rfl, fun W hSw => by (try dsimp only at hSw); go_simp⟩) (by assumption) ?_
          (try simp only [List.setIfInBounds_toArray, List.set_cons_zero, List.set_cons_succ])
          refine takx (i := 10) (D := 65) (v := .agg #[.int .i64 q.a, .int .i64 q.b, .int .i64 q.c, .int .i64 q.d]) rfl rfl (by kernel_rfl) (by kernel_rfl) (by kernel_rfl) (fun _ _ _ h => h) (Or.inl ⟨by rfl, fun W hSw => by (try dsimp only at hSw); go_simp⟩) (by assumption) ?_
          (try simp only [List.setIfInBounds_toArray, List.set_cons_zero, List.set_cons_succ])
          refine wpAnyH_ready (rs := [7]) (by kernel_rfl) (by simp) ?_
          refine (AllReadyH.cons rfl (fun K hK => ?_) AllReadyH.nil)
          go_simp
          refine (toColor4 q.a q.b q.c q.d _).mono ?_
          rintro e X1 ⟨rfl, bc⟩
          refine hK.out _ _ ⟨ck bc hHeld.1, ck bc hHeld.2.1, ck bc hHeld.2.2.1, ck bc hHeld.2.2.2.1, ck bc hHeld.2.2.2.2.1, ck bc hHeld.2.2.2.2.2.1, ck bc hHeld.2.2.2.2.2.2.1, ck bc hHeld.2.2.2.2.2.2.2.1, ck bc hHeld.2.2.2.2.2.2.2.2.1, ck bc hHeld.2.2.2.2.2.2.2.2.2.1, ck bc hHeld.2.2.2.2.2.2.2.2.2.2.1, ck bc hHeld.2.2.2.2.2.2.2.2.2.2.2⟩ (fun hHeld => ?_)
          clear hK K
          (try simp only [List.setIfInBounds_toArray, List.set_cons_zero, List.set_cons_succ])
          replace k_c := bk bc k_c
          replace k_x := bk bc k_x
          replace k_y := bk bc k_y
          replace bw := bs bc bw
          clear bc
          refine wpAnyH_ready (rs := [8]) (by kernel_rfl) (by simp) ?_
          refine (AllReadyH.cons rfl (fun K hK => ?_) AllReadyH.nil)
          go_simp
          refine (farL x q HQ.out _).mono ?_
          rintro e X2 ⟨rfl, bc⟩
          refine hK.out _ _ ⟨ck bc hHeld.1, ck bc hHeld.2.1, ck bc hHeld.2.2.1, ck bc hHeld.2.2.2.1, ck bc hHeld.2.2.2.2.1, ck bc hHeld.2.2.2.2.2.1, ck bc hHeld.2.2.2.2.2.2.1, ck bc hHeld.2.2.2.2.2.2.2.1, ck bc hHeld.2.2.2.2.2.2.2.2.1, ck bc hHeld.2.2.2.2.2.2.2.2.2.1, ck bc hHeld.2.2.2.2.2.2.2.2.2.2.1, ck bc hHeld.2.2.2.2.2.2.2.2.2.2.2⟩ (fun hHeld => ?_)
          clear hK K
          (try simp only [List.setIfInBounds_toArray, List.set_cons_zero, List.set_cons_succ])
          replace k_c := bk bc k_c
          replace k_x := bk bc k_x
          replace k_y := bk bc k_y
          replace bw := bs bc bw
          clear bc
          refine wpAnyH_ready (rs := [11]) (by kernel_rfl) (by simp) ?_
          refine (AllReadyH.cons rfl (fun K hK => ?_) AllReadyH.nil)
          go_simp
          refine (toColor4 q.a q.b q.c q.d _).mono ?_
          rintro e X3 ⟨rfl, bc⟩
          refine hK.out _ _ ⟨ck bc hHeld.1, ck bc hHeld.2.1, ck bc hHeld.2.2.1, ck bc hHeld.2.2.2.1, ck bc hHeld.2.2.2.2.1, ck bc hHeld.2.2.2.2.2.1, ck bc hHeld.2.2.2.2.2.2.1, ck bc hHeld.2.2.2.2.2.2.2.1, ck bc hHeld.2.2.2.2.2.2.2.2.1, ck bc hHeld.2.2.2.2.2.2.2.2.2.1, ck bc hHeld.2.2.2.2.2.2.2.2.2.2.1, ck bc hHeld.2.2.2.2.2.2.2.2.2.2.2⟩ (fun hHeld => ?_)
          clear hK K
          (try simp only [List.setIfInBounds_toArray, List.set_cons_zero, List.set_cons_succ])
          replace k_c := bk bc k_c
          replace k_x := bk bc k_x
          replace k_y := bk bc k_y
          replace bw := bs bc bw
          clear bc
          refine wpAnyH_ready (rs := [12]) (by kernel_rfl) (by simp) ?_
          refine (AllReadyH.cons rfl (fun K hK => ?_) AllReadyH.nil)
          go_simp
          refine (farL y q HQ.out _).mono ?_
          rintro e X4 ⟨rfl, bc⟩
          refine hK.out _ _ ⟨ck bc hHeld.1, ck bc hHeld.2.1, ck bc hHeld.2.2.1, ck bc hHeld.2.2.2.1, ck bc hHeld.2.2.2.2.1, ck bc hHeld.2.2.2.2.2.1, ck bc hHeld.2.2.2.2.2.2.1, ck bc hHeld.2.2.2.2.2.2.2.1, ck bc hHeld.2.2.2.2.2.2.2.2.1, ck bc hHeld.2.2.2.2.2.2.2.2.2.1, ck bc hHeld.2.2.2.2.2.2.2.2.2.2.1, ck bc hHeld.2.2.2.2.2.2.2.2.2.2.2⟩ (fun hHeld => ?_)
          clear hK K
          (try simp only [List.setIfInBounds_toArray, List.set_cons_zero, List.set_cons_succ])
          replace k_c := bk bc k_c
          replace k_x := bk bc k_x
          replace k_y := bk bc k_y
          replace bw := bs bc bw
          clear bc
          refine takx (i := 13) (D := 68) (v := .bool true) rfl rfl (by kernel_rfl) (by kernel_rfl) (by kernel_rfl) (fun _ _ _ h => h) (Or.inl ⟨by rfl, fun W hSw => by (try dsimp only at hSw); go_simp⟩) (by assumption) ?_
          (try simp only [List.setIfInBounds_toArray, List.set_cons_zero, List.set_cons_succ])
          refine takx (i := 14) (D := 69) (v := .bool true) rfl rfl (by kernel_rfl) (by kernel_rfl) (by kernel_rfl) (fun _ _ _ h => h) (Or.inl ⟨by rfl, fun W hSw => by (try dsimp only at hSw); go_simp⟩) (by assumption) ?_
          (try simp only [List.setIfInBounds_toArray, List.set_cons_zero, List.set_cons_succ])
          refine takx (i := 15) (D := 4) (v := .bool true) rfl rfl (by kernel_rfl) (by kernel_rfl) (by kernel_rfl) (fun _ _ _ h => h) (Or.inl ⟨by rfl, fun W hSw => by (try dsimp only at hSw); go_simp⟩) (by assumption) ?_
          (try simp only [List.setIfInBounds_toArray, List.set_cons_zero, List.set_cons_succ])
          refine wpAnyH_done (by kernel_rfl) ?_ _
          go_wp2_with fail
          go_ret
          exact ⟨rfl, bs bw BW0.out⟩

end Go.Proofs.Ytbhccckfooobcaa

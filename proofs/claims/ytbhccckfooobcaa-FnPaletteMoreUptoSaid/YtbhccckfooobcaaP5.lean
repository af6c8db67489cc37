/-
  Contracts: the nearest color of a palette, by the program. No condition.
-/
import Derived.Test.YtbhccckfooobcaaP4
import Derived.Test.YtbhccckfooobcaaX0
import Derived.Test.YtbhccckfooobcaaK0P
namespace Go.Proofs.Ytbhccckfooobcaa
open Go.ChangeShapes Go.WideShapes Go.ChangeAt Go.RowKit
set_option linter.unusedVariables false
set_option linter.unusedSimpArgs false

theorem bfrozen {B : Nat} {W w1 : World} (hb : Below B W w1) : ∀ b o, b < B → w1.frozen? ⟨b, o, none⟩ = W.frozen? ⟨b, o, none⟩ := fun b o h => hb.frozen (p := ⟨b, o, none⟩) h

theorem index4 (n cp : Nat) (A : Option Addr) (qs : List Q4) (a b c d : Int) (w : World) (hr : RdPal w w.heap.size A n qs) :
    Calls Try.prog 22 #[.slice A n cp, .iface 44 (.agg #[.int .u8 (a % 256), .int .u8 (b % 256), .int .u8 (c % 256), .int .u8 (d % 256)])] w fun e w' => ∃ i : Nat, e = .returned (.int .i64 i) ∧ First (qs.map (sdist ⟨a, b, c, d⟩)) i ∧ Below w.heap.size w w' := index_any n cp A qs ⟨a, b, c, d⟩ w hr

theorem convert_none (cp : Nat) (A : Option Addr) (v : Value) (w : World) :
    Calls Try.prog 24 #[.slice A 0 cp, v] w fun e w' => e = .returned .nilIface ∧ w' = w := by
  go_enter Try.func24, Try.ntmps24
  go_wp2
  go_ret
  exact ⟨rfl, rfl⟩

theorem convert_nil (n cp : Nat) (A : Option Addr) (v : Value) (w : World) (h : n = 0) :
    Calls Try.prog 24 #[.slice A n cp, v] w fun e w' => e = .returned .nilIface ∧ Below w.heap.size w w' := by
  subst h
  exact (convert_none cp A v w).mono fun _ _ ⟨h, k⟩ => ⟨h, k ▸ Below.refl _ _⟩

theorem First.lt {ss : List Int} {i : Nat} (h : First ss i) (hl : 0 < ss.length) : i < ss.length := by
  rcases h with ⟨rfl, _⟩ | ⟨h, _⟩
  · simp at hl
  · exact h

theorem convert4 (n cp : Nat) (A : Option Addr) (qs : List Q4) (a b c d : Int) (w : World) (hr : RdPal w w.heap.size A n qs) (h0 : 0 < n) :
    Calls Try.prog 24 #[.slice A n cp, .iface 44 (.agg #[.int .u8 (a % 256), .int .u8 (b % 256), .int .u8 (c % 256), .int .u8 (d % 256)])] w fun e w' => ∃ (i : Nat) (x : Q4), e = .returned (.iface 44 (.agg #[.int .u8 (x.a % 256), .int .u8 (x.b % 256), .int .u8 (x.c % 256), .int .u8 (x.d % 256)])) ∧ x = qs.getD i default ∧ First (qs.map (sdist ⟨a, b, c, d⟩)) i ∧ Below w.heap.size w w' := by
  have HR := Lib.hid hr
  have hn : n * 32 ≤ 140737488355328 := hr.2.1
  clear hr
  have hz : ((n : Int) == 0) = false := by simp; omega
  go_enter Try.func24, Try.ntmps24
  go_wp2_with fail
  refine (index4 n cp A qs a b c d _ HR.out).mono ?_
  rintro e w1 ⟨i, rfl, hf, b1⟩
  obtain ⟨hl, _, hrd⟩ := HR.out.below b1
  obtain ⟨g, off, rfl, hg, hc⟩ := hrd (by omega)
  have hi : i < n := by have := hf.lt (by simp; omega); simpa [hl] using this
  have x1 := hc i hi
  generalize hv : qs.getD i default = v at x1
  have HV := Lib.hid hv
  unfold ifc clr at x1
  have HF := Lib.hid hf
  clear hv
  clear hf hrd hc
  go_wp2
  go_ret
  exact ⟨i, v, rfl, HV.out.symm, HF.out, b1⟩

theorem palIndex4 (n cp : Nat) (A : Option Addr) (qs : List Q4) (a b c d : Int) (w : World) (hr : RdQuads w w.heap.size A n qs) :
    Calls Try.prog 12 #[.slice A n cp, .agg #[.int .i64 a, .int .i64 b, .int .i64 c, .int .i64 d]] w fun e w' => ∃ i : Nat, e = .returned (.int .i64 i) ∧ First (qs.map (sdist ⟨a, b, c, d⟩)) i ∧ Below w.heap.size w w' := by
  have HR := Lib.hid hr
  clear hr
  have bw : Below w.heap.size w (w.alloc (.cells #[.int .i64 a, .int .i64 b, .int .i64 c, .int .i64 d] 25)) := (Below.refl _ _).alloc (Nat.le_refl _) _
  have zb : w.heap.size < (w.alloc (.cells #[.int .i64 a, .int .i64 b, .int .i64 c, .int .i64 d] 25)).heap.size := by simp
  go_enter Try.func12, Try.ntmps12
  go_wp2_with fail
  go_region_held3 (fun w' => w'.cell? ⟨w.heap.size, 0, none⟩ = some (.int .i64 a) ∧ w'.cell? ⟨w.heap.size, 1, none⟩ = some (.int .i64 b) ∧ w'.cell? ⟨w.heap.size, 2, none⟩ = some (.int .i64 c) ∧ w'.cell? ⟨w.heap.size, 3, none⟩ = some (.int .i64 d)) (go_keep)
    (first
        | (go_at_call 21; refine (palette_any n cp A qs _ (by first | exact (HR.out.below bw).more bw.size | exact (HR.out.below bw.drew).more bw.size | exact (HR.out.below (bw.alloc bw.size _)).more (bw.alloc bw.size _).size | exact (HR.out.below (bw.drew.alloc bw.size _)).more (bw.drew.alloc bw.size _).size)).mono ?_; rintro e wbp ⟨A1, cp1, rfl, r1, lo1, bp⟩; (first | have hcbp := bcelld bp | have hcbp := bcellx bp); have zbp0 : w.heap.size < wbp.heap.size := Nat.lt_of_lt_of_le (by first | assumption | exact zb | exact zq | exact zp | (simp; omega) | simp) bp.size; have bw : Below w.heap.size w wbp := (by first | exact bw.trans (bp.mono bw.size) | exact bw.drew.trans (bp.mono bw.size)))
        | (go_at_call 23; refine (nrgba4 a b c d _).mono ?_; rintro e wbn ⟨rfl, bn⟩; (first | have hcbn := bcelld bn | have hcbn := bcellx bn); have zbn0 : w.heap.size < wbn.heap.size := Nat.lt_of_lt_of_le (by first | assumption | exact zb | exact zq | exact zp | (simp; omega) | simp) bn.size; have bw : Below w.heap.size w wbn := (by first | exact bw.trans (bn.mono bw.size) | exact bw.drew.trans (bn.mono bw.size)); (try (have r1 := (r1.below bn).more bn.size)))
        | (go_at_call 22; refine (index4 n cp1 A1 qs a b c d _ (by first | exact r1 | exact r1.below (Below.refl _ _).drew)).mono ?_; rintro e wbi ⟨i, rfl, hf, bi⟩; (first | have hcbi := bcelld bi | have hcbi := bcellx bi); have zbi0 : w.heap.size < wbi.heap.size := Nat.lt_of_lt_of_le (by first | assumption | exact zb | exact zq | exact zp | (simp; omega) | simp) bi.size; have bw : Below w.heap.size w wbi := (by first | exact bw.trans (bi.mono bw.size) | exact bw.drew.trans (bi.mono bw.size))))
  go_wp2
  go_ret
  exact ⟨i, rfl, hf, bw⟩

theorem ta_any (r g b a : Int) (W : World) : (Instr.typeAssert (.iface 44 (.agg #[.int .u8 r, .int .u8 g, .int .u8 b, .int .u8 a])) 48 44 true).run Try.prog W = .ok (.tuple #[.agg #[.int .u8 r, .int .u8 g, .int .u8 b, .int .u8 a], .bool true]) W := by kernel_rfl
theorem ta_nil (W : World) : (Instr.typeAssert .nilIface 48 44 true).run Try.prog W = .ok (.tuple #[.agg #[.int .u8 0, .int .u8 0, .int .u8 0, .int .u8 0], .bool false]) W := by kernel_rfl

set_option maxHeartbeats 4000000 in
theorem palConv4 (n cp : Nat) (A : Option Addr) (qs : List Q4) (a b c d : Int) (w : World) (hr : RdQuads w w.heap.size A n qs) (h0 : 0 < n) :
    Calls Try.prog 15 #[.slice A n cp, .agg #[.int .i64 a, .int .i64 b, .int .i64 c, .int .i64 d]] w fun e w' => ∃ (i : Nat) (x : Q4), e = .returned (.tuple #[.agg #[.int .i64 (x.a % 256), .int .i64 (x.b % 256), .int .i64 (x.c % 256), .int .i64 (x.d % 256)], .bool true]) ∧ x = qs.getD i default ∧ First (qs.map (sdist ⟨a, b, c, d⟩)) i ∧ Below w.heap.size w w' := by
  have HR := Lib.hid hr
  clear hr
  have hta := ta_any
  have htn := ta_nil
  go_enter Try.func15, Try.ntmps15
  go_upto_region 1 with fail
  obtain ⟨W, hW⟩ : ∃ W, W = ((w.alloc (.cells #[.int .i64 a, .int .i64 b, .int .i64 c, .int .i64 d] 25)).alloc (.cells #[.int .i64 0, .int .i64 0, .int .i64 0, .int .i64 0] 25)) := ⟨_, rfl⟩
  have bw : Below w.heap.size w W := by rw [hW]; exact bsa (bsa (Below.refl _ _))
  have k_r : W.heap[w.heap.size + 1]? = some (.cells #[.int .i64 0, .int .i64 0, .int .i64 0, .int .i64 0] 25 (0, 0)) := by rw [hW]; exact heap_new2 w _ _
  have k_c : W.heap[w.heap.size]? = some (.cells #[.int .i64 a, .int .i64 b, .int .i64 c, .int .i64 d] 25 (0, 0)) := by rw [hW]; exact bka (heap_alloc_new w _)
  rw [← hW]
  clear hW
  go_cut [6, 7] (fun s6 s7 wx => ∃ (g i : Nat) (x : Q4), s6 = .pointer (some ⟨g, 0, none⟩) ∧ s7 = .bool true ∧ wx.heap[g]? = some (.cells #[.int .u8 (x.a % 256), .int .u8 (x.b % 256), .int .u8 (x.c % 256), .int .u8 (x.d % 256)] 44 (0, 0)) ∧ wx.heap[w.heap.size + 1]? = some (.cells #[.int .i64 0, .int .i64 0, .int .i64 0, .int .i64 0] 25 (0, 0)) ∧ Hid (x = qs.getD i default) ∧ Hid (First (qs.map (sdist ⟨a, b, c, d⟩)) i) ∧ Hid (Below w.heap.size w wx))
  case first =>
    refine wp_region_held_drew (S := fun w' => w'.cell? ⟨w.heap.size, 0, none⟩ = some (.int .i64 a) ∧ w'.cell? ⟨w.heap.size, 1, none⟩ = some (.int .i64 b) ∧ w'.cell? ⟨w.heap.size, 2, none⟩ = some (.int .i64 c) ∧ w'.cell? ⟨w.heap.size, 3, none⟩ = some (.int .i64 d)) (by kernel_rfl) ⟨(q4c k_c).1.1, (q4c k_c).1.2.1, (q4c k_c).1.2.2.1, (q4c k_c).1.2.2.2⟩ ?_
    intro hHeld
    obtain ⟨X0, eX, bc⟩ : ∃ X, X = W.drew ∧ Below W.heap.size W X := ⟨_, rfl, (Below.refl _ _).drew⟩
    rw [← eX] at hHeld ⊢
    replace k_c := bk bc k_c
    replace k_r := bk bc k_r
    replace bw := bs bc bw
    (try replace r1 := (r1.below bc).more bc.size)
    clear eX bc
    refine takx (i := 0) (D := 9) (v := .slice A n cp) rfl rfl (by kernel_rfl) (by kernel_rfl) (by kernel_rfl) (fun _ _ _ h => h) (Or.inl ⟨by rfl, fun W hSw => by (try dsimp only at hSw); go_simp⟩) (by assumption) ?_
    (try simp only [List.setIfInBounds_toArray, List.set_cons_zero, List.set_cons_succ])
    refine takx (i := 2) (D := 11) (v := .agg #[.int .i64 a, .int .i64 b, .int .i64 c, .int .i64 d]) rfl rfl (by kernel_rfl) (by kernel_rfl) (by kernel_rfl) (fun _ _ _ h => h) (Or.inl ⟨by rfl, fun W hSw => by (try dsimp only at hSw); go_simp⟩) (by assumption) ?_
    (try simp only [List.setIfInBounds_toArray, List.set_cons_zero, List.set_cons_succ])
    refine wpAnyH_ready (rs := [1, 10]) (by kernel_rfl) (by simp) ?_
    refine (AllReadyH.cons rfl (fun K hK => ?_) (AllReadyH.cons rfl (fun K hK => ?_) AllReadyH.nil))
    · go_simp
      refine (palette_any n cp A qs _ ((HR.out.below bw).more bw.size)).mono ?_
      rintro e X1 ⟨A1, cp1, rfl, r1, lo1, bc⟩
      refine hK.out _ _ ⟨ck bc hHeld.1, ck bc hHeld.2.1, ck bc hHeld.2.2.1, ck bc hHeld.2.2.2⟩ (fun hHeld => ?_)
      clear hK K
      (try simp only [List.setIfInBounds_toArray, List.set_cons_zero, List.set_cons_succ])
      replace k_c := bk bc k_c
      replace k_r := bk bc k_r
      replace bw := bs bc bw
      (try replace r1 := (r1.below bc).more bc.size)
      clear bc
      refine wpAnyH_ready (rs := [3, 10]) (by kernel_rfl) (by simp) ?_
      refine (AllReadyH.cons rfl (fun K hK => ?_) (AllReadyH.cons rfl (fun K hK => ?_) AllReadyH.nil))
      · go_simp
        refine (nrgba4 a b c d _).mono ?_
        rintro e X2 ⟨rfl, bc⟩
        refine hK.out _ _ ⟨ck bc hHeld.1, ck bc hHeld.2.1, ck bc hHeld.2.2.1, ck bc hHeld.2.2.2⟩ (fun hHeld => ?_)
        clear hK K
        (try simp only [List.setIfInBounds_toArray, List.set_cons_zero, List.set_cons_succ])
        replace k_c := bk bc k_c
        replace k_r := bk bc k_r
        replace bw := bs bc bw
        (try replace r1 := (r1.below bc).more bc.size)
        clear bc
        refine takx (i := 4) (D := 13) (v := .iface 44 (.agg #[.int .u8 (a % 256), .int .u8 (b % 256), .int .u8 (c % 256), .int .u8 (d % 256)])) rfl rfl (by kernel_rfl) (by kernel_rfl) (by kernel_rfl) (fun _ _ _ h => h) (Or.inl ⟨by rfl, fun W hSw => by (try dsimp only at hSw); go_simp⟩) (by assumption) ?_
        (try simp only [List.setIfInBounds_toArray, List.set_cons_zero, List.set_cons_succ])
        refine wpAnyH_ready (rs := [5, 10]) (by kernel_rfl) (by simp) ?_
        refine (AllReadyH.cons rfl (fun K hK => ?_) (AllReadyH.cons rfl (fun K hK => ?_) AllReadyH.nil))
        · go_simp
          refine (convert4 n cp1 A1 qs a b c d _ r1 h0).mono ?_
          rintro e X3 ⟨i, x, rfl, hx0, hf0, bc⟩
          refine hK.out _ _ ⟨ck bc hHeld.1, ck bc hHeld.2.1, ck bc hHeld.2.2.1, ck bc hHeld.2.2.2⟩ (fun hHeld => ?_)
          clear hK K
          (try simp only [List.setIfInBounds_toArray, List.set_cons_zero, List.set_cons_succ])
          replace k_c := bk bc k_c
          replace k_r := bk bc k_r
          replace bw := bs bc bw
          (try replace r1 := (r1.below bc).more bc.size)
          have hx := Lib.hid hx0
          have hf := Lib.hid hf0
          clear hx0 hf0
          clear bc
          refine takx (i := 6) (D := 15) (v := .tuple #[.agg #[.int .u8 (x.a % 256), .int .u8 (x.b % 256), .int .u8 (x.c % 256), .int .u8 (x.d % 256)], .bool true]) rfl rfl (by kernel_rfl) (by kernel_rfl) (by kernel_rfl) (fun _ _ _ h => h) (Or.inl ⟨by rfl, fun W hSw => by (try dsimp only at hSw); go_simp⟩) (by assumption) ?_
          (try simp only [List.setIfInBounds_toArray, List.set_cons_zero, List.set_cons_succ])
          refine takx (i := 7) (D := 8) (v := .tuple #[.agg #[.int .u8 (x.a % 256), .int .u8 (x.b % 256), .int .u8 (x.c % 256), .int .u8 (x.d % 256)], .bool true]) rfl rfl (by kernel_rfl) (by kernel_rfl) (by kernel_rfl) (fun _ _ _ h => h) (Or.inl ⟨by rfl, fun W hSw => by (try dsimp only at hSw); go_simp⟩) (by assumption) ?_
          (try simp only [List.setIfInBounds_toArray, List.set_cons_zero, List.set_cons_succ])
          refine takx (i := 8) (D := 16) (v := .agg #[.int .u8 (x.a % 256), .int .u8 (x.b % 256), .int .u8 (x.c % 256), .int .u8 (x.d % 256)]) rfl rfl (by kernel_rfl) (by kernel_rfl) (by kernel_rfl) (fun _ _ _ h => h) (Or.inl ⟨by rfl, fun W hSw => by (try dsimp only at hSw); go_simp⟩) (by assumption) ?_
          (try simp only [List.setIfInBounds_toArray, List.set_cons_zero, List.set_cons_succ])
          refine takx (i := 9) (D := 17) (v := .bool true) rfl rfl (by kernel_rfl) (by kernel_rfl) (by kernel_rfl) (fun _ _ _ h => h) (Or.inl ⟨by rfl, fun W hSw => by (try dsimp only at hSw); go_simp⟩) (by assumption) ?_
          (try simp only [List.setIfInBounds_toArray, List.set_cons_zero, List.set_cons_succ])
          refine wpAnyH_ready (rs := [10]) (by kernel_rfl) (by simp) ?_
          refine (AllReadyH.cons rfl (fun K hK => ?_) AllReadyH.nil)
          go_simp
          refine hK.out _ _ ⟨cka hHeld.1, cka hHeld.2.1, cka hHeld.2.2.1, cka hHeld.2.2.2⟩ (fun hHeld => ?_)
          clear hK K
          (try simp only [List.setIfInBounds_toArray, List.set_cons_zero, List.set_cons_succ])
          obtain ⟨X4, g4, eY, eg⟩ : ∃ Y g, Y = X3.alloc (.cells #[.int .u8 0, .int .u8 0, .int .u8 0, .int .u8 0] 44) ∧ g = X3.heap.size := ⟨_, _, rfl, rfl⟩
          rw [← eY, ← eg]
          rw [← eY] at hHeld
          have bc : Below X3.heap.size X3 X4 := by rw [eY]; exact (Below.refl _ _).alloc (Nat.le_refl _) _
          have k_n6 : X4.heap[g4]? = some (.cells #[.int .u8 0, .int .u8 0, .int .u8 0, .int .u8 0] 44 (0, 0)) := by rw [eY, eg]; exact heap_alloc_new X3 _
          have lo_n6 : w.heap.size ≤ g4 := by rw [eg]; exact bw.size
          have ne_c_n6 : ¬ w.heap.size = g4 := ne_new k_c eg
          have ne_r_n6 : ¬ w.heap.size + 1 = g4 := ne_new k_r eg
          replace k_c := bk bc k_c
          replace k_r := bk bc k_r
          replace bw := bs bc bw
          (try replace r1 := (r1.below bc).more bc.size)
          clear bc eY eg
          refine wpAnyH_ready (rs := [11]) (by kernel_rfl) (by simp) ?_
          refine (AllReadyH.cons rfl (fun K hK => ?_) AllReadyH.nil)
          have qq := q4c k_n6
          go_simp
          clear qq
          refine hK.out _ _ ⟨(cks ne_c_n6 (cks ne_c_n6 (cks ne_c_n6 (cks ne_c_n6 hHeld.1)))), (cks ne_c_n6 (cks ne_c_n6 (cks ne_c_n6 (cks ne_c_n6 hHeld.2.1)))), (cks ne_c_n6 (cks ne_c_n6 (cks ne_c_n6 (cks ne_c_n6 hHeld.2.2.1)))), (cks ne_c_n6 (cks ne_c_n6 (cks ne_c_n6 (cks ne_c_n6 hHeld.2.2.2))))⟩ (fun hHeld => ?_)
          clear hK K
          (try simp only [List.setIfInBounds_toArray, List.set_cons_zero, List.set_cons_succ])
          obtain ⟨X5, eY⟩ : ∃ Y, Y = ((((X4.setCell ⟨g4, 0, none⟩ (.int .u8 (x.a % 256))).setCell ⟨g4, 1, none⟩ (.int .u8 (x.b % 256))).setCell ⟨g4, 2, none⟩ (.int .u8 (x.c % 256))).setCell ⟨g4, 3, none⟩ (.int .u8 (x.d % 256))) := ⟨_, rfl⟩
          rw [← eY] at hHeld ⊢
          replace k_c : X5.heap[w.heap.size]? = some (.cells #[.int .i64 a, .int .i64 b, .int .i64 c, .int .i64 d] 25 (0, 0)) := by rw [eY]; exact (bks ne_c_n6 (bks ne_c_n6 (bks ne_c_n6 (bks ne_c_n6 k_c))))
          replace k_r : X5.heap[w.heap.size + 1]? = some (.cells #[.int .i64 0, .int .i64 0, .int .i64 0, .int .i64 0] 25 (0, 0)) := by rw [eY]; exact (bks ne_r_n6 (bks ne_r_n6 (bks ne_r_n6 (bks ne_r_n6 k_r))))
          replace bw : Below w.heap.size w X5 := by rw [eY]; exact (bss lo_n6 (bss lo_n6 (bss lo_n6 (bss lo_n6 bw))))
          replace k_n6 : X5.heap[g4]? = some (.cells #[.int .u8 (x.a % 256), .int .u8 (x.b % 256), .int .u8 (x.c % 256), .int .u8 (x.d % 256)] 44 (0, 0)) := by rw [eY]; exact q4s k_n6
          clear eY
          refine takx (i := 12) (D := 7) (v := .bool true) rfl rfl (by kernel_rfl) (by kernel_rfl) (by kernel_rfl) (fun _ _ _ h => h) (Or.inl ⟨by rfl, fun W hSw => by (try dsimp only at hSw); go_simp⟩) (by assumption) ?_
          (try simp only [List.setIfInBounds_toArray, List.set_cons_zero, List.set_cons_succ])
          refine wpAnyH_done (by kernel_rfl) ?_ _
          go_wp2_with fail
          go_meet
          exact ⟨_, i, x, rfl, rfl, k_n6, k_r, hx, hf, bw⟩
        · go_simp
          refine hK.out _ _ ⟨cka hHeld.1, cka hHeld.2.1, cka hHeld.2.2.1, cka hHeld.2.2.2⟩ (fun hHeld => ?_)
          clear hK K
          (try simp only [List.setIfInBounds_toArray, List.set_cons_zero, List.set_cons_succ])
          obtain ⟨X6, g6, eY, eg⟩ : ∃ Y g, Y = X2.alloc (.cells #[.int .u8 0, .int .u8 0, .int .u8 0, .int .u8 0] 44) ∧ g = X2.heap.size := ⟨_, _, rfl, rfl⟩
          rw [← eY, ← eg]
          rw [← eY] at hHeld
          have bc : Below X2.heap.size X2 X6 := by rw [eY]; exact (Below.refl _ _).alloc (Nat.le_refl _) _
          have k_n6 : X6.heap[g6]? = some (.cells #[.int .u8 0, .int .u8 0, .int .u8 0, .int .u8 0] 44 (0, 0)) := by rw [eY, eg]; exact heap_alloc_new X2 _
          have lo_n6 : w.heap.size ≤ g6 := by rw [eg]; exact bw.size
          have ne_c_n6 : ¬ w.heap.size = g6 := ne_new k_c eg
          have ne_r_n6 : ¬ w.heap.size + 1 = g6 := ne_new k_r eg
          replace k_c := bk bc k_c
          replace k_r := bk bc k_r
          replace bw := bs bc bw
          (try replace r1 := (r1.below bc).more bc.size)
          clear bc eY eg
          refine wpAnyH_ready (rs := [5]) (by kernel_rfl) (by simp) ?_
          refine (AllReadyH.cons rfl (fun K hK => ?_) AllReadyH.nil)
          go_simp
          refine (convert4 n cp1 A1 qs a b c d _ r1 h0).mono ?_
          rintro e X7 ⟨i, x, rfl, hx0, hf0, bc⟩
          refine hK.out _ _ ⟨ck bc hHeld.1, ck bc hHeld.2.1, ck bc hHeld.2.2.1, ck bc hHeld.2.2.2⟩ (fun hHeld => ?_)
          clear hK K
          (try simp only [List.setIfInBounds_toArray, List.set_cons_zero, List.set_cons_succ])
          replace k_c := bk bc k_c
          replace k_r := bk bc k_r
          replace k_n6 := bk bc k_n6
          replace bw := bs bc bw
          (try replace r1 := (r1.below bc).more bc.size)
          have hx := Lib.hid hx0
          have hf := Lib.hid hf0
          clear hx0 hf0
          clear bc
          refine takx (i := 6) (D := 15) (v := .tuple #[.agg #[.int .u8 (x.a % 256), .int .u8 (x.b % 256), .int .u8 (x.c % 256), .int .u8 (x.d % 256)], .bool true]) rfl rfl (by kernel_rfl) (by kernel_rfl) (by kernel_rfl) (fun _ _ _ h => h) (Or.inl ⟨by rfl, fun W hSw => by (try dsimp only at hSw); go_simp⟩) (by assumption) ?_
          (try simp only [List.setIfInBounds_toArray, List.set_cons_zero, List.set_cons_succ])
          refine takx (i := 7) (D := 8) (v := .tuple #[.agg #[.int .u8 (x.a % 256), .int .u8 (x.b % 256), .int .u8 (x.c % 256), .int .u8 (x.d % 256)], .bool true]) rfl rfl (by kernel_rfl) (by kernel_rfl) (by kernel_rfl) (fun _ _ _ h => h) (Or.inl ⟨by rfl, fun W hSw => by (try dsimp only at hSw); go_simp⟩) (by assumption) ?_
          (try simp only [List.setIfInBounds_toArray, List.set_cons_zero, List.set_cons_succ])
          refine takx (i := 8) (D := 16) (v := .agg #[.int .u8 (x.a % 256), .int .u8 (x.b % 256), .int .u8 (x.c % 256), .int .u8 (x.d % 256)]) rfl rfl (by kernel_rfl) (by kernel_rfl) (by kernel_rfl) (fun _ _ _ h => h) (Or.inl ⟨by rfl, fun W hSw => by (try dsimp only at hSw); go_simp⟩) (by assumption) ?_
          (try simp only [List.setIfInBounds_toArray, List.set_cons_zero, List.set_cons_succ])
          refine takx (i := 9) (D := 17) (v := .bool true) rfl rfl (by kernel_rfl) (by kernel_rfl) (by kernel_rfl) (fun _ _ _ h => h) (Or.inl ⟨by rfl, fun W hSw => by (try dsimp only at hSw); go_simp⟩) (by assumption) ?_
          (try simp only [List.setIfInBounds_toArray, List.set_cons_zero, List.set_cons_succ])
          refine wpAnyH_ready (rs := [11]) (by kernel_rfl) (by simp) ?_
          refine (AllReadyH.cons rfl (fun K hK => ?_) AllReadyH.nil)
          have qq := q4c k_n6
          go_simp
          clear qq
          refine hK.out _ _ ⟨(cks ne_c_n6 (cks ne_c_n6 (cks ne_c_n6 (cks ne_c_n6 hHeld.1)))), (cks ne_c_n6 (cks ne_c_n6 (cks ne_c_n6 (cks ne_c_n6 hHeld.2.1)))), (cks ne_c_n6 (cks ne_c_n6 (cks ne_c_n6 (cks ne_c_n6 hHeld.2.2.1)))), (cks ne_c_n6 (cks ne_c_n6 (cks ne_c_n6 (cks ne_c_n6 hHeld.2.2.2))))⟩ (fun hHeld => ?_)
          clear hK K
          (try simp only [List.setIfInBounds_toArray, List.set_cons_zero, List.set_cons_succ])
          obtain ⟨X8, eY⟩ : ∃ Y, Y = ((((X7.setCell ⟨g6, 0, none⟩ (.int .u8 (x.a % 256))).setCell ⟨g6, 1, none⟩ (.int .u8 (x.b % 256))).setCell ⟨g6, 2, none⟩ (.int .u8 (x.c % 256))).setCell ⟨g6, 3, none⟩ (.int .u8 (x.d % 256))) := ⟨_, rfl⟩
          rw [← eY] at hHeld ⊢
          replace k_c : X8.heap[w.heap.size]? = some (.cells #[.int .i64 a, .int .i64 b, .int .i64 c, .int .i64 d] 25 (0, 0)) := by rw [eY]; exact (bks ne_c_n6 (bks ne_c_n6 (bks ne_c_n6 (bks ne_c_n6 k_c))))
          replace k_r : X8.heap[w.heap.size + 1]? = some (.cells #[.int .i64 0, .int .i64 0, .int .i64 0, .int .i64 0] 25 (0, 0)) := by rw [eY]; exact (bks ne_r_n6 (bks ne_r_n6 (bks ne_r_n6 (bks ne_r_n6 k_r))))
          replace bw : Below w.heap.size w X8 := by rw [eY]; exact (bss lo_n6 (bss lo_n6 (bss lo_n6 (bss lo_n6 bw))))
          replace k_n6 : X8.heap[g6]? = some (.cells #[.int .u8 (x.a % 256), .int .u8 (x.b % 256), .int .u8 (x.c % 256), .int .u8 (x.d % 256)] 44 (0, 0)) := by rw [eY]; exact q4s k_n6
          clear eY
          refine takx (i := 12) (D := 7) (v := .bool true) rfl rfl (by kernel_rfl) (by kernel_rfl) (by kernel_rfl) (fun _ _ _ h => h) (Or.inl ⟨by rfl, fun W hSw => by (try dsimp only at hSw); go_simp⟩) (by assumption) ?_
          (try simp only [List.setIfInBounds_toArray, List.set_cons_zero, List.set_cons_succ])
          refine wpAnyH_done (by kernel_rfl) ?_ _
          go_wp2_with fail
          go_meet
          exact ⟨_, i, x, rfl, rfl, k_n6, k_r, hx, hf, bw⟩
      · go_simp
        refine hK.out _ _ ⟨cka hHeld.1, cka hHeld.2.1, cka hHeld.2.2.1, cka hHeld.2.2.2⟩ (fun hHeld => ?_)
        clear hK K
        (try simp only [List.setIfInBounds_toArray, List.set_cons_zero, List.set_cons_succ])
        obtain ⟨X9, g9, eY, eg⟩ : ∃ Y g, Y = X1.alloc (.cells #[.int .u8 0, .int .u8 0, .int .u8 0, .int .u8 0] 44) ∧ g = X1.heap.size := ⟨_, _, rfl, rfl⟩
        rw [← eY, ← eg]
        rw [← eY] at hHeld
        have bc : Below X1.heap.size X1 X9 := by rw [eY]; exact (Below.refl _ _).alloc (Nat.le_refl _) _
        have k_n6 : X9.heap[g9]? = some (.cells #[.int .u8 0, .int .u8 0, .int .u8 0, .int .u8 0] 44 (0, 0)) := by rw [eY, eg]; exact heap_alloc_new X1 _
        have lo_n6 : w.heap.size ≤ g9 := by rw [eg]; exact bw.size
        have ne_c_n6 : ¬ w.heap.size = g9 := ne_new k_c eg
        have ne_r_n6 : ¬ w.heap.size + 1 = g9 := ne_new k_r eg
        replace k_c := bk bc k_c
        replace k_r := bk bc k_r
        replace bw := bs bc bw
        (try replace r1 := (r1.below bc).more bc.size)
        clear bc eY eg
        refine wpAnyH_ready (rs := [3]) (by kernel_rfl) (by simp) ?_
        refine (AllReadyH.cons rfl (fun K hK => ?_) AllReadyH.nil)
        go_simp
        refine (nrgba4 a b c d _).mono ?_
        rintro e X10 ⟨rfl, bc⟩
        refine hK.out _ _ ⟨ck bc hHeld.1, ck bc hHeld.2.1, ck bc hHeld.2.2.1, ck bc hHeld.2.2.2⟩ (fun hHeld => ?_)
        clear hK K
        (try simp only [List.setIfInBounds_toArray, List.set_cons_zero, List.set_cons_succ])
        replace k_c := bk bc k_c
        replace k_r := bk bc k_r
        replace k_n6 := bk bc k_n6
        replace bw := bs bc bw
        (try replace r1 := (r1.below bc).more bc.size)
        clear bc
        refine takx (i := 4) (D := 13) (v := .iface 44 (.agg #[.int .u8 (a % 256), .int .u8 (b % 256), .int .u8 (c % 256), .int .u8 (d % 256)])) rfl rfl (by kernel_rfl) (by kernel_rfl) (by kernel_rfl) (fun _ _ _ h => h) (Or.inl ⟨by rfl, fun W hSw => by (try dsimp only at hSw); go_simp⟩) (by assumption) ?_
        (try simp only [List.setIfInBounds_toArray, List.set_cons_zero, List.set_cons_succ])
        refine wpAnyH_ready (rs := [5]) (by kernel_rfl) (by simp) ?_
        refine (AllReadyH.cons rfl (fun K hK => ?_) AllReadyH.nil)
        go_simp
        refine (convert4 n cp1 A1 qs a b c d _ r1 h0).mono ?_
        rintro e X11 ⟨i, x, rfl, hx0, hf0, bc⟩
        refine hK.out _ _ ⟨ck bc hHeld.1, ck bc hHeld.2.1, ck bc hHeld.2.2.1, ck bc hHeld.2.2.2⟩ (fun hHeld => ?_)
        clear hK K
        (try simp only [List.setIfInBounds_toArray, List.set_cons_zero, List.set_cons_succ])
        replace k_c := bk bc k_c
        replace k_r := bk bc k_r
        replace k_n6 := bk bc k_n6
        replace bw := bs bc bw
        (try replace r1 := (r1.below bc).more bc.size)
        have hx := Lib.hid hx0
        have hf := Lib.hid hf0
        clear hx0 hf0
        clear bc
        refine takx (i := 6) (D := 15) (v := .tuple #[.agg #[.int .u8 (x.a % 256), .int .u8 (x.b % 256), .int .u8 (x.c % 256), .int .u8 (x.d % 256)], .bool true]) rfl rfl (by kernel_rfl) (by kernel_rfl) (by kernel_rfl) (fun _ _ _ h => h) (Or.inl ⟨by rfl, fun W hSw => by (try dsimp only at hSw); go_simp⟩) (by assumption) ?_
        (try simp only [List.setIfInBounds_toArray, List.set_cons_zero, List.set_cons_succ])
        refine takx (i := 7) (D := 8) (v := .tuple #[.agg #[.int .u8 (x.a % 256), .int .u8 (x.b % 256), .int .u8 (x.c % 256), .int .u8 (x.d % 256)], .bool true]) rfl rfl (by kernel_rfl) (by kernel_rfl) (by kernel_rfl) (fun _ _ _ h => h) (Or.inl ⟨by rfl, fun W hSw => by (try dsimp only at hSw); go_simp⟩) (by assumption) ?_
        (try simp only [List.setIfInBounds_toArray, List.set_cons_zero, List.set_cons_succ])
        refine takx (i := 8) (D := 16) (v := .agg #[.int .u8 (x.a % 256), .int .u8 (x.b % 256), .int .u8 (x.c % 256), .int .u8 (x.d % 256)]) rfl rfl (by kernel_rfl) (by kernel_rfl) (by kernel_rfl) (fun _ _ _ h => h) (Or.inl ⟨by rfl, fun W hSw => by (try dsimp only at hSw); go_simp⟩) (by assumption) ?_
        (try simp only [List.setIfInBounds_toArray, List.set_cons_zero, List.set_cons_succ])
        refine takx (i := 9) (D := 17) (v := .bool true) rfl rfl (by kernel_rfl) (by kernel_rfl) (by kernel_rfl) (fun _ _ _ h => h) (Or.inl ⟨by rfl, fun W hSw => by (try dsimp only at hSw); go_simp⟩) (by assumption) ?_
        (try simp only [List.setIfInBounds_toArray, List.set_cons_zero, List.set_cons_succ])
        refine wpAnyH_ready (rs := [11]) (by kernel_rfl) (by simp) ?_
        refine (AllReadyH.cons rfl (fun K hK => ?_) AllReadyH.nil)
        have qq := q4c k_n6
        go_simp
        clear qq
        refine hK.out _ _ ⟨(cks ne_c_n6 (cks ne_c_n6 (cks ne_c_n6 (cks ne_c_n6 hHeld.1)))), (cks ne_c_n6 (cks ne_c_n6 (cks ne_c_n6 (cks ne_c_n6 hHeld.2.1)))), (cks ne_c_n6 (cks ne_c_n6 (cks ne_c_n6 (cks ne_c_n6 hHeld.2.2.1)))), (cks ne_c_n6 (cks ne_c_n6 (cks ne_c_n6 (cks ne_c_n6 hHeld.2.2.2))))⟩ (fun hHeld => ?_)
        clear hK K
        (try simp only [List.setIfInBounds_toArray, List.set_cons_zero, List.set_cons_succ])
        obtain ⟨X12, eY⟩ : ∃ Y, Y = ((((X11.setCell ⟨g9, 0, none⟩ (.int .u8 (x.a % 256))).setCell ⟨g9, 1, none⟩ (.int .u8 (x.b % 256))).setCell ⟨g9, 2, none⟩ (.int .u8 (x.c % 256))).setCell ⟨g9, 3, none⟩ (.int .u8 (x.d % 256))) := ⟨_, rfl⟩
        rw [← eY] at hHeld ⊢
        replace k_c : X12.heap[w.heap.size]? = some (.cells #[.int .i64 a, .int .i64 b, .int .i64 c, .int .i64 d] 25 (0, 0)) := by rw [eY]; exact (bks ne_c_n6 (bks ne_c_n6 (bks ne_c_n6 (bks ne_c_n6 k_c))))
        replace k_r : X12.heap[w.heap.size + 1]? = some (.cells #[.int .i64 0, .int .i64 0, .int .i64 0, .int .i64 0] 25 (0, 0)) := by rw [eY]; exact (bks ne_r_n6 (bks ne_r_n6 (bks ne_r_n6 (bks ne_r_n6 k_r))))
        replace bw : Below w.heap.size w X12 := by rw [eY]; exact (bss lo_n6 (bss lo_n6 (bss lo_n6 (bss lo_n6 bw))))
        replace k_n6 : X12.heap[g9]? = some (.cells #[.int .u8 (x.a % 256), .int .u8 (x.b % 256), .int .u8 (x.c % 256), .int .u8 (x.d % 256)] 44 (0, 0)) := by rw [eY]; exact q4s k_n6
        clear eY
        refine takx (i := 12) (D := 7) (v := .bool true) rfl rfl (by kernel_rfl) (by kernel_rfl) (by kernel_rfl) (fun _ _ _ h => h) (Or.inl ⟨by rfl, fun W hSw => by (try dsimp only at hSw); go_simp⟩) (by assumption) ?_
        (try simp only [List.setIfInBounds_toArray, List.set_cons_zero, List.set_cons_succ])
        refine wpAnyH_done (by kernel_rfl) ?_ _
        go_wp2_with fail
        go_meet
        exact ⟨_, i, x, rfl, rfl, k_n6, k_r, hx, hf, bw⟩
    · go_simp
      refine hK.out _ _ ⟨cka hHeld.1, cka hHeld.2.1, cka hHeld.2.2.1, cka hHeld.2.2.2⟩ (fun hHeld => ?_)
      clear hK K
      (try simp only [List.setIfInBounds_toArray, List.set_cons_zero, List.set_cons_succ])
      obtain ⟨X13, g13, eY, eg⟩ : ∃ Y g, Y = X0.alloc (.cells #[.int .u8 0, .int .u8 0, .int .u8 0, .int .u8 0] 44) ∧ g = X0.heap.size := ⟨_, _, rfl, rfl⟩
      rw [← eY, ← eg]
      rw [← eY] at hHeld
      have bc : Below X0.heap.size X0 X13 := by rw [eY]; exact (Below.refl _ _).alloc (Nat.le_refl _) _
      have k_n6 : X13.heap[g13]? = some (.cells #[.int .u8 0, .int .u8 0, .int .u8 0, .int .u8 0] 44 (0, 0)) := by rw [eY, eg]; exact heap_alloc_new X0 _
      have lo_n6 : w.heap.size ≤ g13 := by rw [eg]; exact bw.size
      have ne_c_n6 : ¬ w.heap.size = g13 := ne_new k_c eg
      have ne_r_n6 : ¬ w.heap.size + 1 = g13 := ne_new k_r eg
      replace k_c := bk bc k_c
      replace k_r := bk bc k_r
      replace bw := bs bc bw
      (try replace r1 := (r1.below bc).more bc.size)
      clear bc eY eg
      refine wpAnyH_ready (rs := [1]) (by kernel_rfl) (by simp) ?_
      refine (AllReadyH.cons rfl (fun K hK => ?_) AllReadyH.nil)
      go_simp
      refine (palette_any n cp A qs _ ((HR.out.below bw).more bw.size)).mono ?_
      rintro e X14 ⟨A1, cp1, rfl, r1, lo1, bc⟩
      refine hK.out _ _ ⟨ck bc hHeld.1, ck bc hHeld.2.1, ck bc hHeld.2.2.1, ck bc hHeld.2.2.2⟩ (fun hHeld => ?_)
      clear hK K
      (try simp only [List.setIfInBounds_toArray, List.set_cons_zero, List.set_cons_succ])
      replace k_c := bk bc k_c
      replace k_r := bk bc k_r
      replace k_n6 := bk bc k_n6
      replace bw := bs bc bw
      (try replace r1 := (r1.below bc).more bc.size)
      clear bc
      refine wpAnyH_ready (rs := [3]) (by kernel_rfl) (by simp) ?_
      refine (AllReadyH.cons rfl (fun K hK => ?_) AllReadyH.nil)
      go_simp
      refine (nrgba4 a b c d _).mono ?_
      rintro e X15 ⟨rfl, bc⟩
      refine hK.out _ _ ⟨ck bc hHeld.1, ck bc hHeld.2.1, ck bc hHeld.2.2.1, ck bc hHeld.2.2.2⟩ (fun hHeld => ?_)
      clear hK K
      (try simp only [List.setIfInBounds_toArray, List.set_cons_zero, List.set_cons_succ])
      replace k_c := bk bc k_c
      replace k_r := bk bc k_r
      replace k_n6 := bk bc k_n6
      replace bw := bs bc bw
      (try replace r1 := (r1.below bc).more bc.size)
      clear bc
      refine takx (i := 4) (D := 13) (v := .iface 44 (.agg #[.int .u8 (a % 256), .int .u8 (b % 256), .int .u8 (c % 256), .int .u8 (d % 256)])) rfl rfl (by kernel_rfl) (by kernel_rfl) (by kernel_rfl) (fun _ _ _ h => h) (Or.inl ⟨by rfl, fun W hSw => by (try dsimp only at hSw); go_simp⟩) (by assumption) ?_
      (try simp only [List.setIfInBounds_toArray, List.set_cons_zero, List.set_cons_succ])
      refine wpAnyH_ready (rs := [5]) (by kernel_rfl) (by simp) ?_
      refine (AllReadyH.cons rfl (fun K hK => ?_) AllReadyH.nil)
      go_simp
      refine (convert4 n cp1 A1 qs a b c d _ r1 h0).mono ?_
      rintro e X16 ⟨i, x, rfl, hx0, hf0, bc⟩
      refine hK.out _ _ ⟨ck bc hHeld.1, ck bc hHeld.2.1, ck bc hHeld.2.2.1, ck bc hHeld.2.2.2⟩ (fun hHeld => ?_)
      clear hK K
      (try simp only [List.setIfInBounds_toArray, List.set_cons_zero, List.set_cons_succ])
      replace k_c := bk bc k_c
      replace k_r := bk bc k_r
      replace k_n6 := bk bc k_n6
      replace bw := bs bc bw
      (try replace r1 := (r1.below bc).more bc.size)
      have hx := Lib.hid hx0
      have hf := Lib.hid hf0
      clear hx0 hf0
      clear bc
      refine takx (i := 6) (D := 15) (v := .tuple #[.agg #[.int .u8 (x.a % 256), .int .u8 (x.b % 256), .int .u8 (x.c % 256), .int .u8 (x.d % 256)], .bool true]) rfl rfl (by kernel_rfl) (by kernel_rfl) (by kernel_rfl) (fun _ _ _ h => h) (Or.inl ⟨by rfl, fun W hSw => by (try dsimp only at hSw); go_simp⟩) (by assumption) ?_
      (try simp only [List.setIfInBounds_toArray, List.set_cons_zero, List.set_cons_succ])
      refine takx (i := 7) (D := 8) (v := .tuple #[.agg #[.int .u8 (x.a % 256), .int .u8 (x.b % 256), .int .u8 (x.c % 256), .int .u8 (x.d % 256)], .bool true]) rfl rfl (by kernel_rfl) (by kernel_rfl) (by kernel_rfl) (fun _ _ _ h => h) (Or.inl ⟨by rfl, fun W hSw => by (try dsimp only at hSw); go_simp⟩) (by assumption) ?_
      (try simp only [List.setIfInBounds_toArray, List.set_cons_zero, List.set_cons_succ])
      refine takx (i := 8) (D := 16) (v := .agg #[.int .u8 (x.a % 256), .int .u8 (x.b % 256), .int .u8 (x.c % 256), .int .u8 (x.d % 256)]) rfl rfl (by kernel_rfl) (by kernel_rfl) (by kernel_rfl) (fun _ _ _ h => h) (Or.inl ⟨by rfl, fun W hSw => by (try dsimp only at hSw); go_simp⟩) (by assumption) ?_
      (try simp only [List.setIfInBounds_toArray, List.set_cons_zero, List.set_cons_succ])
      refine takx (i := 9) (D := 17) (v := .bool true) rfl rfl (by kernel_rfl) (by kernel_rfl) (by kernel_rfl) (fun _ _ _ h => h) (Or.inl ⟨by rfl, fun W hSw => by (try dsimp only at hSw); go_simp⟩) (by assumption) ?_
      (try simp only [List.setIfInBounds_toArray, List.set_cons_zero, List.set_cons_succ])
      refine wpAnyH_ready (rs := [11]) (by kernel_rfl) (by simp) ?_
      refine (AllReadyH.cons rfl (fun K hK => ?_) AllReadyH.nil)
      have qq := q4c k_n6
      go_simp
      clear qq
      refine hK.out _ _ ⟨(cks ne_c_n6 (cks ne_c_n6 (cks ne_c_n6 (cks ne_c_n6 hHeld.1)))), (cks ne_c_n6 (cks ne_c_n6 (cks ne_c_n6 (cks ne_c_n6 hHeld.2.1)))), (cks ne_c_n6 (cks ne_c_n6 (cks ne_c_n6 (cks ne_c_n6 hHeld.2.2.1)))), (cks ne_c_n6 (cks ne_c_n6 (cks ne_c_n6 (cks ne_c_n6 hHeld.2.2.2))))⟩ (fun hHeld => ?_)
      clear hK K
      (try simp only [List.setIfInBounds_toArray, List.set_cons_zero, List.set_cons_succ])
      obtain ⟨X17, eY⟩ : ∃ Y, Y = ((((X16.setCell ⟨g13, 0, none⟩ (.int .u8 (x.a % 256))).setCell ⟨g13, 1, none⟩ (.int .u8 (x.b % 256))).setCell ⟨g13, 2, none⟩ (.int .u8 (x.c % 256))).setCell ⟨g13, 3, none⟩ (.int .u8 (x.d % 256))) := ⟨_, rfl⟩
      rw [← eY] at hHeld ⊢
      replace k_c : X17.heap[w.heap.size]? = some (.cells #[.int .i64 a, .int .i64 b, .int .i64 c, .int .i64 d] 25 (0, 0)) := by rw [eY]; exact (bks ne_c_n6 (bks ne_c_n6 (bks ne_c_n6 (bks ne_c_n6 k_c))))
      replace k_r : X17.heap[w.heap.size + 1]? = some (.cells #[.int .i64 0, .int .i64 0, .int .i64 0, .int .i64 0] 25 (0, 0)) := by rw [eY]; exact (bks ne_r_n6 (bks ne_r_n6 (bks ne_r_n6 (bks ne_r_n6 k_r))))
      replace bw : Below w.heap.size w X17 := by rw [eY]; exact (bss lo_n6 (bss lo_n6 (bss lo_n6 (bss lo_n6 bw))))
      replace k_n6 : X17.heap[g13]? = some (.cells #[.int .u8 (x.a % 256), .int .u8 (x.b % 256), .int .u8 (x.c % 256), .int .u8 (x.d % 256)] 44 (0, 0)) := by rw [eY]; exact q4s k_n6
      clear eY
      refine takx (i := 12) (D := 7) (v := .bool true) rfl rfl (by kernel_rfl) (by kernel_rfl) (by kernel_rfl) (fun _ _ _ h => h) (Or.inl ⟨by rfl, fun W hSw => by (try dsimp only at hSw); go_simp⟩) (by assumption) ?_
      (try simp only [List.setIfInBounds_toArray, List.set_cons_zero, List.set_cons_succ])
      refine wpAnyH_done (by kernel_rfl) ?_ _
      go_wp2_with fail
      go_meet
      exact ⟨_, i, x, rfl, rfl, k_n6, k_r, hx, hf, bw⟩
  case rest =>
    obtain ⟨g, i, x, rfl, rfl, k6, kr, hx, hf, bw⟩ := hcut
    obtain ⟨⟨c0, c1, c2, c3⟩, _⟩ := q4c k6
    have K6 := Lib.hid k6
    have KR := Lib.hid kr
    clear k6 kr
    go_wp2_with fail
    refine (told_any (x.a % 256) (x.b % 256) (x.c % 256) (x.d % 256) (by omega) (by omega) (by omega) (by omega) (by omega) (by omega) (by omega) (by omega) _).mono ?_
    rintro e w2 ⟨rfl, bc⟩
    obtain ⟨⟨s0, s1, s2, s3⟩, g0, g1, g2, g3⟩ := q4c (bk bc KR.out)
    clear c0 c1 c2 c3
    go_wp2
    refine bodyPost_ret (v := .tuple #[.agg #[.int .i64 (x.a % 256), .int .i64 (x.b % 256), .int .i64 (x.c % 256), .int .i64 (x.d % 256)], .bool true]) (by simp [results, Try.results15, go_sem, s0, s1, s2, s3]) rfl ?_
    exact ⟨i, x, rfl, hx.out, hf.out, bss (Nat.le_succ _) (bss (Nat.le_succ _) (bss (Nat.le_succ _) (bss (Nat.le_succ _) (bs bc bw.out))))⟩

set_option maxHeartbeats 4000000 in
theorem palConv0 (n cp : Nat) (A : Option Addr) (qs : List Q4) (a b c d : Int) (w : World) (hr : RdQuads w w.heap.size A n qs) (h0 : Hid (n = 0)) :
    Calls Try.prog 15 #[.slice A n cp, .agg #[.int .i64 a, .int .i64 b, .int .i64 c, .int .i64 d]] w fun e w' => e = .returned (.tuple #[.agg #[.int .i64 0, .int .i64 0, .int .i64 0, .int .i64 0], .bool false]) ∧ Below w.heap.size w w' := by
  have HR := Lib.hid hr
  clear hr
  have hta := ta_any
  have htn := ta_nil
  go_enter Try.func15, Try.ntmps15
  go_upto_region 1 with fail
  obtain ⟨W, hW⟩ : ∃ W, W = ((w.alloc (.cells #[.int .i64 a, .int .i64 b, .int .i64 c, .int .i64 d] 25)).alloc (.cells #[.int .i64 0, .int .i64 0, .int .i64 0, .int .i64 0] 25)) := ⟨_, rfl⟩
  have bw : Below w.heap.size w W := by rw [hW]; exact bsa (bsa (Below.refl _ _))
  have k_r : W.heap[w.heap.size + 1]? = some (.cells #[.int .i64 0, .int .i64 0, .int .i64 0, .int .i64 0] 25 (0, 0)) := by rw [hW]; exact heap_new2 w _ _
  have k_c : W.heap[w.heap.size]? = some (.cells #[.int .i64 a, .int .i64 b, .int .i64 c, .int .i64 d] 25 (0, 0)) := by rw [hW]; exact bka (heap_alloc_new w _)
  rw [← hW]
  clear hW
  go_cut [6, 7] (fun s6 s7 wx => s7 = .bool false ∧ wx.heap[w.heap.size + 1]? = some (.cells #[.int .i64 0, .int .i64 0, .int .i64 0, .int .i64 0] 25 (0, 0)) ∧ Hid (Below w.heap.size w wx))
  case first =>
    refine wp_region_held_drew (S := fun w' => w'.cell? ⟨w.heap.size, 0, none⟩ = some (.int .i64 a) ∧ w'.cell? ⟨w.heap.size, 1, none⟩ = some (.int .i64 b) ∧ w'.cell? ⟨w.heap.size, 2, none⟩ = some (.int .i64 c) ∧ w'.cell? ⟨w.heap.size, 3, none⟩ = some (.int .i64 d)) (by kernel_rfl) ⟨(q4c k_c).1.1, (q4c k_c).1.2.1, (q4c k_c).1.2.2.1, (q4c k_c).1.2.2.2⟩ ?_
    intro hHeld
    obtain ⟨X0, eX, bc⟩ : ∃ X, X = W.drew ∧ Below W.heap.size W X := ⟨_, rfl, (Below.refl _ _).drew⟩
    rw [← eX] at hHeld ⊢
    replace k_c := bk bc k_c
    replace k_r := bk bc k_r
    replace bw := bs bc bw
    (try replace r1 := (r1.below bc).more bc.size)
    clear eX bc
    refine takx (i := 0) (D := 9) (v := .slice A n cp) rfl rfl (by kernel_rfl) (by kernel_rfl) (by kernel_rfl) (fun _ _ _ h => h) (Or.inl ⟨by rfl, fun W hSw => by (try dsimp only at hSw); go_simp⟩) (by assumption) ?_
    (try simp only [List.setIfInBounds_toArray, List.set_cons_zero, List.set_cons_succ])
    refine takx (i := 2) (D := 11) (v := .agg #[.int .i64 a, .int .i64 b, .int .i64 c, .int .i64 d]) rfl rfl (by kernel_rfl) (by kernel_rfl) (by kernel_rfl) (fun _ _ _ h => h) (Or.inl ⟨by rfl, fun W hSw => by (try dsimp only at hSw); go_simp⟩) (by assumption) ?_
    (try simp only [List.setIfInBounds_toArray, List.set_cons_zero, List.set_cons_succ])
    refine wpAnyH_ready (rs := [1, 10]) (by kernel_rfl) (by simp) ?_
    refine (AllReadyH.cons rfl (fun K hK => ?_) (AllReadyH.cons rfl (fun K hK => ?_) AllReadyH.nil))
    · go_simp
      refine (palette_any n cp A qs _ ((HR.out.below bw).more bw.size)).mono ?_
      rintro e X1 ⟨A1, cp1, rfl, r1, lo1, bc⟩
      refine hK.out _ _ ⟨ck bc hHeld.1, ck bc hHeld.2.1, ck bc hHeld.2.2.1, ck bc hHeld.2.2.2⟩ (fun hHeld => ?_)
      clear hK K
      (try simp only [List.setIfInBounds_toArray, List.set_cons_zero, List.set_cons_succ])
      replace k_c := bk bc k_c
      replace k_r := bk bc k_r
      replace bw := bs bc bw
      (try replace r1 := (r1.below bc).more bc.size)
      clear bc
      refine wpAnyH_ready (rs := [3, 10]) (by kernel_rfl) (by simp) ?_
      refine (AllReadyH.cons rfl (fun K hK => ?_) (AllReadyH.cons rfl (fun K hK => ?_) AllReadyH.nil))
      · go_simp
        refine (nrgba4 a b c d _).mono ?_
        rintro e X2 ⟨rfl, bc⟩
        refine hK.out _ _ ⟨ck bc hHeld.1, ck bc hHeld.2.1, ck bc hHeld.2.2.1, ck bc hHeld.2.2.2⟩ (fun hHeld => ?_)
        clear hK K
        (try simp only [List.setIfInBounds_toArray, List.set_cons_zero, List.set_cons_succ])
        replace k_c := bk bc k_c
        replace k_r := bk bc k_r
        replace bw := bs bc bw
        (try replace r1 := (r1.below bc).more bc.size)
        clear bc
        refine takx (i := 4) (D := 13) (v := .iface 44 (.agg #[.int .u8 (a % 256), .int .u8 (b % 256), .int .u8 (c % 256), .int .u8 (d % 256)])) rfl rfl (by kernel_rfl) (by kernel_rfl) (by kernel_rfl) (fun _ _ _ h => h) (Or.inl ⟨by rfl, fun W hSw => by (try dsimp only at hSw); go_simp⟩) (by assumption) ?_
        (try simp only [List.setIfInBounds_toArray, List.set_cons_zero, List.set_cons_succ])
        refine wpAnyH_ready (rs := [5, 10]) (by kernel_rfl) (by simp) ?_
        refine (AllReadyH.cons rfl (fun K hK => ?_) (AllReadyH.cons rfl (fun K hK => ?_) AllReadyH.nil))
        · go_simp
          refine (convert_nil n cp1 A1 _ _ h0.out).mono ?_
          rintro e X3 ⟨rfl, bc⟩
          refine hK.out _ _ ⟨ck bc hHeld.1, ck bc hHeld.2.1, ck bc hHeld.2.2.1, ck bc hHeld.2.2.2⟩ (fun hHeld => ?_)
          clear hK K
          (try simp only [List.setIfInBounds_toArray, List.set_cons_zero, List.set_cons_succ])
          replace k_c := bk bc k_c
          replace k_r := bk bc k_r
          replace bw := bs bc bw
          (try replace r1 := (r1.below bc).more bc.size)
          clear bc
          refine takx (i := 6) (D := 15) (v := .tuple #[.agg #[.int .u8 0, .int .u8 0, .int .u8 0, .int .u8 0], .bool false]) rfl rfl (by kernel_rfl) (by kernel_rfl) (by kernel_rfl) (fun _ _ _ h => h) (Or.inl ⟨by rfl, fun W hSw => by (try dsimp only at hSw); go_simp⟩) (by assumption) ?_
          (try simp only [List.setIfInBounds_toArray, List.set_cons_zero, List.set_cons_succ])
          refine takx (i := 7) (D := 8) (v := .tuple #[.agg #[.int .u8 0, .int .u8 0, .int .u8 0, .int .u8 0], .bool false]) rfl rfl (by kernel_rfl) (by kernel_rfl) (by kernel_rfl) (fun _ _ _ h => h) (Or.inl ⟨by rfl, fun W hSw => by (try dsimp only at hSw); go_simp⟩) (by assumption) ?_
          (try simp only [List.setIfInBounds_toArray, List.set_cons_zero, List.set_cons_succ])
          refine takx (i := 8) (D := 16) (v := .agg #[.int .u8 0, .int .u8 0, .int .u8 0, .int .u8 0]) rfl rfl (by kernel_rfl) (by kernel_rfl) (by kernel_rfl) (fun _ _ _ h => h) (Or.inl ⟨by rfl, fun W hSw => by (try dsimp only at hSw); go_simp⟩) (by assumption) ?_
          (try simp only [List.setIfInBounds_toArray, List.set_cons_zero, List.set_cons_succ])
          refine takx (i := 9) (D := 17) (v := .bool false) rfl rfl (by kernel_rfl) (by kernel_rfl) (by kernel_rfl) (fun _ _ _ h => h) (Or.inl ⟨by rfl, fun W hSw => by (try dsimp only at hSw); go_simp⟩) (by assumption) ?_
          (try simp only [List.setIfInBounds_toArray, List.set_cons_zero, List.set_cons_succ])
          refine wpAnyH_ready (rs := [10]) (by kernel_rfl) (by simp) ?_
          refine (AllReadyH.cons rfl (fun K hK => ?_) AllReadyH.nil)
          go_simp
          refine hK.out _ _ ⟨cka hHeld.1, cka hHeld.2.1, cka hHeld.2.2.1, cka hHeld.2.2.2⟩ (fun hHeld => ?_)
          clear hK K
          (try simp only [List.setIfInBounds_toArray, List.set_cons_zero, List.set_cons_succ])
          obtain ⟨X4, g4, eY, eg⟩ : ∃ Y g, Y = X3.alloc (.cells #[.int .u8 0, .int .u8 0, .int .u8 0, .int .u8 0] 44) ∧ g = X3.heap.size := ⟨_, _, rfl, rfl⟩
          rw [← eY, ← eg]
          rw [← eY] at hHeld
          have bc : Below X3.heap.size X3 X4 := by rw [eY]; exact (Below.refl _ _).alloc (Nat.le_refl _) _
          have k_n6 : X4.heap[g4]? = some (.cells #[.int .u8 0, .int .u8 0, .int .u8 0, .int .u8 0] 44 (0, 0)) := by rw [eY, eg]; exact heap_alloc_new X3 _
          have lo_n6 : w.heap.size ≤ g4 := by rw [eg]; exact bw.size
          have ne_c_n6 : ¬ w.heap.size = g4 := ne_new k_c eg
          have ne_r_n6 : ¬ w.heap.size + 1 = g4 := ne_new k_r eg
          replace k_c := bk bc k_c
          replace k_r := bk bc k_r
          replace bw := bs bc bw
          (try replace r1 := (r1.below bc).more bc.size)
          clear bc eY eg
          refine wpAnyH_ready (rs := [11]) (by kernel_rfl) (by simp) ?_
          refine (AllReadyH.cons rfl (fun K hK => ?_) AllReadyH.nil)
          have qq := q4c k_n6
          go_simp
          clear qq
          refine hK.out _ _ ⟨(cks ne_c_n6 (cks ne_c_n6 (cks ne_c_n6 (cks ne_c_n6 hHeld.1)))), (cks ne_c_n6 (cks ne_c_n6 (cks ne_c_n6 (cks ne_c_n6 hHeld.2.1)))), (cks ne_c_n6 (cks ne_c_n6 (cks ne_c_n6 (cks ne_c_n6 hHeld.2.2.1)))), (cks ne_c_n6 (cks ne_c_n6 (cks ne_c_n6 (cks ne_c_n6 hHeld.2.2.2))))⟩ (fun hHeld => ?_)
          clear hK K
          (try simp only [List.setIfInBounds_toArray, List.set_cons_zero, List.set_cons_succ])
          obtain ⟨X5, eY⟩ : ∃ Y, Y = ((((X4.setCell ⟨g4, 0, none⟩ (.int .u8 0)).setCell ⟨g4, 1, none⟩ (.int .u8 0)).setCell ⟨g4, 2, none⟩ (.int .u8 0)).setCell ⟨g4, 3, none⟩ (.int .u8 0)) := ⟨_, rfl⟩
          rw [← eY] at hHeld ⊢
          replace k_c : X5.heap[w.heap.size]? = some (.cells #[.int .i64 a, .int .i64 b, .int .i64 c, .int .i64 d] 25 (0, 0)) := by rw [eY]; exact (bks ne_c_n6 (bks ne_c_n6 (bks ne_c_n6 (bks ne_c_n6 k_c))))
          replace k_r : X5.heap[w.heap.size + 1]? = some (.cells #[.int .i64 0, .int .i64 0, .int .i64 0, .int .i64 0] 25 (0, 0)) := by rw [eY]; exact (bks ne_r_n6 (bks ne_r_n6 (bks ne_r_n6 (bks ne_r_n6 k_r))))
          replace bw : Below w.heap.size w X5 := by rw [eY]; exact (bss lo_n6 (bss lo_n6 (bss lo_n6 (bss lo_n6 bw))))
          replace k_n6 : X5.heap[g4]? = some (.cells #[.int .u8 0, .int .u8 0, .int .u8 0, .int .u8 0] 44 (0, 0)) := by rw [eY]; exact q4s k_n6
          clear eY
          refine takx (i := 12) (D := 7) (v := .bool false) rfl rfl (by kernel_rfl) (by kernel_rfl) (by kernel_rfl) (fun _ _ _ h => h) (Or.inl ⟨by rfl, fun W hSw => by (try dsimp only at hSw); go_simp⟩) (by assumption) ?_
          (try simp only [List.setIfInBounds_toArray, List.set_cons_zero, List.set_cons_succ])
          refine wpAnyH_done (by kernel_rfl) ?_ _
          go_wp2_with fail
          go_meet
          exact ⟨rfl, k_r, bw⟩
        · go_simp
          refine hK.out _ _ ⟨cka hHeld.1, cka hHeld.2.1, cka hHeld.2.2.1, cka hHeld.2.2.2⟩ (fun hHeld => ?_)
          clear hK K
          (try simp only [List.setIfInBounds_toArray, List.set_cons_zero, List.set_cons_succ])
          obtain ⟨X6, g6, eY, eg⟩ : ∃ Y g, Y = X2.alloc (.cells #[.int .u8 0, .int .u8 0, .int .u8 0, .int .u8 0] 44) ∧ g = X2.heap.size := ⟨_, _, rfl, rfl⟩
          rw [← eY, ← eg]
          rw [← eY] at hHeld
          have bc : Below X2.heap.size X2 X6 := by rw [eY]; exact (Below.refl _ _).alloc (Nat.le_refl _) _
          have k_n6 : X6.heap[g6]? = some (.cells #[.int .u8 0, .int .u8 0, .int .u8 0, .int .u8 0] 44 (0, 0)) := by rw [eY, eg]; exact heap_alloc_new X2 _
          have lo_n6 : w.heap.size ≤ g6 := by rw [eg]; exact bw.size
          have ne_c_n6 : ¬ w.heap.size = g6 := ne_new k_c eg
          have ne_r_n6 : ¬ w.heap.size + 1 = g6 := ne_new k_r eg
          replace k_c := bk bc k_c
          replace k_r := bk bc k_r
          replace bw := bs bc bw
          (try replace r1 := (r1.below bc).more bc.size)
          clear bc eY eg
          refine wpAnyH_ready (rs := [5]) (by kernel_rfl) (by simp) ?_
          refine (AllReadyH.cons rfl (fun K hK => ?_) AllReadyH.nil)
          go_simp
          refine (convert_nil n cp1 A1 _ _ h0.out).mono ?_
          rintro e X7 ⟨rfl, bc⟩
          refine hK.out _ _ ⟨ck bc hHeld.1, ck bc hHeld.2.1, ck bc hHeld.2.2.1, ck bc hHeld.2.2.2⟩ (fun hHeld => ?_)
          clear hK K
          (try simp only [List.setIfInBounds_toArray, List.set_cons_zero, List.set_cons_succ])
          replace k_c := bk bc k_c
          replace k_r := bk bc k_r
          replace k_n6 := bk bc k_n6
          replace bw := bs bc bw
          (try replace r1 := (r1.below bc).more bc.size)
          clear bc
          refine takx (i := 6) (D := 15) (v := .tuple #[.agg #[.int .u8 0, .int .u8 0, .int .u8 0, .int .u8 0], .bool false]) rfl rfl (by kernel_rfl) (by kernel_rfl) (by kernel_rfl) (fun _ _ _ h => h) (Or.inl ⟨by rfl, fun W hSw => by (try dsimp only at hSw); go_simp⟩) (by assumption) ?_
          (try simp only [List.setIfInBounds_toArray, List.set_cons_zero, List.set_cons_succ])
          refine takx (i := 7) (D := 8) (v := .tuple #[.agg #[.int .u8 0, .int .u8 0, .int .u8 0, .int .u8 0], .bool false]) rfl rfl (by kernel_rfl) (by kernel_rfl) (by kernel_rfl) (fun _ _ _ h => h) (Or.inl ⟨by rfl, fun W hSw => by (try dsimp only at hSw); go_simp⟩) (by assumption) ?_
          (try simp only [List.setIfInBounds_toArray, List.set_cons_zero, List.set_cons_succ])
          refine takx (i := 8) (D := 16) (v := .agg #[.int .u8 0, .int .u8 0, .int .u8 0, .int .u8 0]) rfl rfl (by kernel_rfl) (by kernel_rfl) (by kernel_rfl) (fun _ _ _ h => h) (Or.inl ⟨by rfl, fun W hSw => by (try dsimp only at hSw); go_simp⟩) (by assumption) ?_
          (try simp only [List.setIfInBounds_toArray, List.set_cons_zero, List.set_cons_succ])
          refine takx (i := 9) (D := 17) (v := .bool false) rfl rfl (by kernel_rfl) (by kernel_rfl) (by kernel_rfl) (fun _ _ _ h => h) (Or.inl ⟨by rfl, fun W hSw => by (try dsimp only at hSw); go_simp⟩) (by assumption) ?_
          (try simp only [List.setIfInBounds_toArray, List.set_cons_zero, List.set_cons_succ])
          refine wpAnyH_ready (rs := [11]) (by kernel_rfl) (by simp) ?_
          refine (AllReadyH.cons rfl (fun K hK => ?_) AllReadyH.nil)
          have qq := q4c k_n6
          go_simp
          clear qq
          refine hK.out _ _ ⟨(cks ne_c_n6 (cks ne_c_n6 (cks ne_c_n6 (cks ne_c_n6 hHeld.1)))), (cks ne_c_n6 (cks ne_c_n6 (cks ne_c_n6 (cks ne_c_n6 hHeld.2.1)))), (cks ne_c_n6 (cks ne_c_n6 (cks ne_c_n6 (cks ne_c_n6 hHeld.2.2.1)))), (cks ne_c_n6 (cks ne_c_n6 (cks ne_c_n6 (cks ne_c_n6 hHeld.2.2.2))))⟩ (fun hHeld => ?_)
          clear hK K
          (try simp only [List.setIfInBounds_toArray, List.set_cons_zero, List.set_cons_succ])
          obtain ⟨X8, eY⟩ : ∃ Y, Y = ((((X7.setCell ⟨g6, 0, none⟩ (.int .u8 0)).setCell ⟨g6, 1, none⟩ (.int .u8 0)).setCell ⟨g6, 2, none⟩ (.int .u8 0)).setCell ⟨g6, 3, none⟩ (.int .u8 0)) := ⟨_, rfl⟩
          rw [← eY] at hHeld ⊢
          replace k_c : X8.heap[w.heap.size]? = some (.cells #[.int .i64 a, .int .i64 b, .int .i64 c, .int .i64 d] 25 (0, 0)) := by rw [eY]; exact (bks ne_c_n6 (bks ne_c_n6 (bks ne_c_n6 (bks ne_c_n6 k_c))))
          replace k_r : X8.heap[w.heap.size + 1]? = some (.cells #[.int .i64 0, .int .i64 0, .int .i64 0, .int .i64 0] 25 (0, 0)) := by rw [eY]; exact (bks ne_r_n6 (bks ne_r_n6 (bks ne_r_n6 (bks ne_r_n6 k_r))))
          replace bw : Below w.heap.size w X8 := by rw [eY]; exact (bss lo_n6 (bss lo_n6 (bss lo_n6 (bss lo_n6 bw))))
          replace k_n6 : X8.heap[g6]? = some (.cells #[.int .u8 0, .int .u8 0, .int .u8 0, .int .u8 0] 44 (0, 0)) := by rw [eY]; exact q4s k_n6
          clear eY
          refine takx (i := 12) (D := 7) (v := .bool false) rfl rfl (by kernel_rfl) (by kernel_rfl) (by kernel_rfl) (fun _ _ _ h => h) (Or.inl ⟨by rfl, fun W hSw => by (try dsimp only at hSw); go_simp⟩) (by assumption) ?_
          (try simp only [List.setIfInBounds_toArray, List.set_cons_zero, List.set_cons_succ])
          refine wpAnyH_done (by kernel_rfl) ?_ _
          go_wp2_with fail
          go_meet
          exact ⟨rfl, k_r, bw⟩
      · go_simp
        refine hK.out _ _ ⟨cka hHeld.1, cka hHeld.2.1, cka hHeld.2.2.1, cka hHeld.2.2.2⟩ (fun hHeld => ?_)
        clear hK K
        (try simp only [List.setIfInBounds_toArray, List.set_cons_zero, List.set_cons_succ])
        obtain ⟨X9, g9, eY, eg⟩ : ∃ Y g, Y = X1.alloc (.cells #[.int .u8 0, .int .u8 0, .int .u8 0, .int .u8 0] 44) ∧ g = X1.heap.size := ⟨_, _, rfl, rfl⟩
        rw [← eY, ← eg]
        rw [← eY] at hHeld
        have bc : Below X1.heap.size X1 X9 := by rw [eY]; exact (Below.refl _ _).alloc (Nat.le_refl _) _
        have k_n6 : X9.heap[g9]? = some (.cells #[.int .u8 0, .int .u8 0, .int .u8 0, .int .u8 0] 44 (0, 0)) := by rw [eY, eg]; exact heap_alloc_new X1 _
        have lo_n6 : w.heap.size ≤ g9 := by rw [eg]; exact bw.size
        have ne_c_n6 : ¬ w.heap.size = g9 := ne_new k_c eg
        have ne_r_n6 : ¬ w.heap.size + 1 = g9 := ne_new k_r eg
        replace k_c := bk bc k_c
        replace k_r := bk bc k_r
        replace bw := bs bc bw
        (try replace r1 := (r1.below bc).more bc.size)
        clear bc eY eg
        refine wpAnyH_ready (rs := [3]) (by kernel_rfl) (by simp) ?_
        refine (AllReadyH.cons rfl (fun K hK => ?_) AllReadyH.nil)
        go_simp
        refine (nrgba4 a b c d _).mono ?_
        rintro e X10 ⟨rfl, bc⟩
        refine hK.out _ _ ⟨ck bc hHeld.1, ck bc hHeld.2.1, ck bc hHeld.2.2.1, ck bc hHeld.2.2.2⟩ (fun hHeld => ?_)
        clear hK K
        (try simp only [List.setIfInBounds_toArray, List.set_cons_zero, List.set_cons_succ])
        replace k_c := bk bc k_c
        replace k_r := bk bc k_r
        replace k_n6 := bk bc k_n6
        replace bw := bs bc bw
        (try replace r1 := (r1.below bc).more bc.size)
        clear bc
        refine takx (i := 4) (D := 13) (v := .iface 44 (.agg #[.int .u8 (a % 256), .int .u8 (b % 256), .int .u8 (c % 256), .int .u8 (d % 256)])) rfl rfl (by kernel_rfl) (by kernel_rfl) (by kernel_rfl) (fun _ _ _ h => h) (Or.inl ⟨by rfl, fun W hSw => by (try dsimp only at hSw); go_simp⟩) (by assumption) ?_
        (try simp only [List.setIfInBounds_toArray, List.set_cons_zero, List.set_cons_succ])
        refine wpAnyH_ready (rs := [5]) (by kernel_rfl) (by simp) ?_
        refine (AllReadyH.cons rfl (fun K hK => ?_) AllReadyH.nil)
        go_simp
        refine (convert_nil n cp1 A1 _ _ h0.out).mono ?_
        rintro e X11 ⟨rfl, bc⟩
        refine hK.out _ _ ⟨ck bc hHeld.1, ck bc hHeld.2.1, ck bc hHeld.2.2.1, ck bc hHeld.2.2.2⟩ (fun hHeld => ?_)
        clear hK K
        (try simp only [List.setIfInBounds_toArray, List.set_cons_zero, List.set_cons_succ])
        replace k_c := bk bc k_c
        replace k_r := bk bc k_r
        replace k_n6 := bk bc k_n6
        replace bw := bs bc bw
        (try replace r1 := (r1.below bc).more bc.size)
        clear bc
        refine takx (i := 6) (D := 15) (v := .tuple #[.agg #[.int .u8 0, .int .u8 0, .int .u8 0, .int .u8 0], .bool false]) rfl rfl (by kernel_rfl) (by kernel_rfl) (by kernel_rfl) (fun _ _ _ h => h) (Or.inl ⟨by rfl, fun W hSw => by (try dsimp only at hSw); go_simp⟩) (by assumption) ?_
        (try simp only [List.setIfInBounds_toArray, List.set_cons_zero, List.set_cons_succ])
        refine takx (i := 7) (D := 8) (v := .tuple #[.agg #[.int .u8 0, .int .u8 0, .int .u8 0, .int .u8 0], .bool false]) rfl rfl (by kernel_rfl) (by kernel_rfl) (by kernel_rfl) (fun _ _ _ h => h) (Or.inl ⟨by rfl, fun W hSw => by (try dsimp only at hSw); go_simp⟩) (by assumption) ?_
        (try simp only [List.setIfInBounds_toArray, List.set_cons_zero, List.set_cons_succ])
        refine takx (i := 8) (D := 16) (v := .agg #[.int .u8 0, .int .u8 0, .int .u8 0, .int .u8 0]) rfl rfl (by kernel_rfl) (by kernel_rfl) (by kernel_rfl) (fun _ _ _ h => h) (Or.inl ⟨by rfl, fun W hSw => by (try dsimp only at hSw); go_simp⟩) (by assumption) ?_
        (try simp only [List.setIfInBounds_toArray, List.set_cons_zero, List.set_cons_succ])
        refine takx (i := 9) (D := 17) (v := .bool false) rfl rfl (by kernel_rfl) (by kernel_rfl) (by kernel_rfl) (fun _ _ _ h => h) (Or.inl ⟨by rfl, fun W hSw => by (try dsimp only at hSw); go_simp⟩) (by assumption) ?_
        (try simp only [List.setIfInBounds_toArray, List.set_cons_zero, List.set_cons_succ])
        refine wpAnyH_ready (rs := [11]) (by kernel_rfl) (by simp) ?_
        refine (AllReadyH.cons rfl (fun K hK => ?_) AllReadyH.nil)
        have qq := q4c k_n6
        go_simp
        clear qq
        refine hK.out _ _ ⟨(cks ne_c_n6 (cks ne_c_n6 (cks ne_c_n6 (cks ne_c_n6 hHeld.1)))), (cks ne_c_n6 (cks ne_c_n6 (cks ne_c_n6 (cks ne_c_n6 hHeld.2.1)))), (cks ne_c_n6 (cks ne_c_n6 (cks ne_c_n6 (cks ne_c_n6 hHeld.2.2.1)))), (cks ne_c_n6 (cks ne_c_n6 (cks ne_c_n6 (cks ne_c_n6 hHeld.2.2.2))))⟩ (fun hHeld => ?_)
        clear hK K
        (try simp only [List.setIfInBounds_toArray, List.set_cons_zero, List.set_cons_succ])
        obtain ⟨X12, eY⟩ : ∃ Y, Y = ((((X11.setCell ⟨g9, 0, none⟩ (.int .u8 0)).setCell ⟨g9, 1, none⟩ (.int .u8 0)).setCell ⟨g9, 2, none⟩ (.int .u8 0)).setCell ⟨g9, 3, none⟩ (.int .u8 0)) := ⟨_, rfl⟩
        rw [← eY] at hHeld ⊢
        replace k_c : X12.heap[w.heap.size]? = some (.cells #[.int .i64 a, .int .i64 b, .int .i64 c, .int .i64 d] 25 (0, 0)) := by rw [eY]; exact (bks ne_c_n6 (bks ne_c_n6 (bks ne_c_n6 (bks ne_c_n6 k_c))))
        replace k_r : X12.heap[w.heap.size + 1]? = some (.cells #[.int .i64 0, .int .i64 0, .int .i64 0, .int .i64 0] 25 (0, 0)) := by rw [eY]; exact (bks ne_r_n6 (bks ne_r_n6 (bks ne_r_n6 (bks ne_r_n6 k_r))))
        replace bw : Below w.heap.size w X12 := by rw [eY]; exact (bss lo_n6 (bss lo_n6 (bss lo_n6 (bss lo_n6 bw))))
        replace k_n6 : X12.heap[g9]? = some (.cells #[.int .u8 0, .int .u8 0, .int .u8 0, .int .u8 0] 44 (0, 0)) := by rw [eY]; exact q4s k_n6
        clear eY
        refine takx (i := 12) (D := 7) (v := .bool false) rfl rfl (by kernel_rfl) (by kernel_rfl) (by kernel_rfl) (fun _ _ _ h => h) (Or.inl ⟨by rfl, fun W hSw => by (try dsimp only at hSw); go_simp⟩) (by assumption) ?_
        (try simp only [List.setIfInBounds_toArray, List.set_cons_zero, List.set_cons_succ])
        refine wpAnyH_done (by kernel_rfl) ?_ _
        go_wp2_with fail
        go_meet
        exact ⟨rfl, k_r, bw⟩
    · go_simp
      refine hK.out _ _ ⟨cka hHeld.1, cka hHeld.2.1, cka hHeld.2.2.1, cka hHeld.2.2.2⟩ (fun hHeld => ?_)
      clear hK K
      (try simp only [List.setIfInBounds_toArray, List.set_cons_zero, List.set_cons_succ])
      obtain ⟨X13, g13, eY, eg⟩ : ∃ Y g, Y = X0.alloc (.cells #[.int .u8 0, .int .u8 0, .int .u8 0, .int .u8 0] 44) ∧ g = X0.heap.size := ⟨_, _, rfl, rfl⟩
      rw [← eY, ← eg]
      rw [← eY] at hHeld
      have bc : Below X0.heap.size X0 X13 := by rw [eY]; exact (Below.refl _ _).alloc (Nat.le_refl _) _
      have k_n6 : X13.heap[g13]? = some (.cells #[.int .u8 0, .int .u8 0, .int .u8 0, .int .u8 0] 44 (0, 0)) := by rw [eY, eg]; exact heap_alloc_new X0 _
      have lo_n6 : w.heap.size ≤ g13 := by rw [eg]; exact bw.size
      have ne_c_n6 : ¬ w.heap.size = g13 := ne_new k_c eg
      have ne_r_n6 : ¬ w.heap.size + 1 = g13 := ne_new k_r eg
      replace k_c := bk bc k_c
      replace k_r := bk bc k_r
      replace bw := bs bc bw
      (try replace r1 := (r1.below bc).more bc.size)
      clear bc eY eg
      refine wpAnyH_ready (rs := [1]) (by kernel_rfl) (by simp) ?_
      refine (AllReadyH.cons rfl (fun K hK => ?_) AllReadyH.nil)
      go_simp
      refine (palette_any n cp A qs _ ((HR.out.below bw).more bw.size)).mono ?_
      rintro e X14 ⟨A1, cp1, rfl, r1, lo1, bc⟩
      refine hK.out _ _ ⟨ck bc hHeld.1, ck bc hHeld.2.1, ck bc hHeld.2.2.1, ck bc hHeld.2.2.2⟩ (fun hHeld => ?_)
      clear hK K
      (try simp only [List.setIfInBounds_toArray, List.set_cons_zero, List.set_cons_succ])
      replace k_c := bk bc k_c
      replace k_r := bk bc k_r
      replace k_n6 := bk bc k_n6
      replace bw := bs bc bw
      (try replace r1 := (r1.below bc).more bc.size)
      clear bc
      refine wpAnyH_ready (rs := [3]) (by kernel_rfl) (by simp) ?_
      refine (AllReadyH.cons rfl (fun K hK => ?_) AllReadyH.nil)
      go_simp
      refine (nrgba4 a b c d _).mono ?_
      rintro e X15 ⟨rfl, bc⟩
      refine hK.out _ _ ⟨ck bc hHeld.1, ck bc hHeld.2.1, ck bc hHeld.2.2.1, ck bc hHeld.2.2.2⟩ (fun hHeld => ?_)
      clear hK K
      (try simp only [List.setIfInBounds_toArray, List.set_cons_zero, List.set_cons_succ])
      replace k_c := bk bc k_c
      replace k_r := bk bc k_r
      replace k_n6 := bk bc k_n6
      replace bw := bs bc bw
      (try replace r1 := (r1.below bc).more bc.size)
      clear bc
      refine takx (i := 4) (D := 13) (v := .iface 44 (.agg #[.int .u8 (a % 256), .int .u8 (b % 256), .int .u8 (c % 256), .int .u8 (d % 256)])) rfl rfl (by kernel_rfl) (by kernel_rfl) (by kernel_rfl) (fun _ _ _ h => h) (Or.inl ⟨by rfl, fun W hSw => by (try dsimp only at hSw); go_simp⟩) (by assumption) ?_
      (try simp only [List.setIfInBounds_toArray, List.set_cons_zero, List.set_cons_succ])
      refine wpAnyH_ready (rs := [5]) (by kernel_rfl) (by simp) ?_
      refine (AllReadyH.cons rfl (fun K hK => ?_) AllReadyH.nil)
      go_simp
      refine (convert_nil n cp1 A1 _ _ h0.out).mono ?_
      rintro e X16 ⟨rfl, bc⟩
      refine hK.out _ _ ⟨ck bc hHeld.1, ck bc hHeld.2.1, ck bc hHeld.2.2.1, ck bc hHeld.2.2.2⟩ (fun hHeld => ?_)
      clear hK K
      (try simp only [List.setIfInBounds_toArray, List.set_cons_zero, List.set_cons_succ])
      replace k_c := bk bc k_c
      replace k_r := bk bc k_r
      replace k_n6 := bk bc k_n6
      replace bw := bs bc bw
      (try replace r1 := (r1.below bc).more bc.size)
      clear bc
      refine takx (i := 6) (D := 15) (v := .tuple #[.agg #[.int .u8 0, .int .u8 0, .int .u8 0, .int .u8 0], .bool false]) rfl rfl (by kernel_rfl) (by kernel_rfl) (by kernel_rfl) (fun _ _ _ h => h) (Or.inl ⟨by rfl, fun W hSw => by (try dsimp only at hSw); go_simp⟩) (by assumption) ?_
      (try simp only [List.setIfInBounds_toArray, List.set_cons_zero, List.set_cons_succ])
      refine takx (i := 7) (D := 8) (v := .tuple #[.agg #[.int .u8 0, .int .u8 0, .int .u8 0, .int .u8 0], .bool false]) rfl rfl (by kernel_rfl) (by kernel_rfl) (by kernel_rfl) (fun _ _ _ h => h) (Or.inl ⟨by rfl, fun W hSw => by (try dsimp only at hSw); go_simp⟩) (by assumption) ?_
      (try simp only [List.setIfInBounds_toArray, List.set_cons_zero, List.set_cons_succ])
      refine takx (i := 8) (D := 16) (v := .agg #[.int .u8 0, .int .u8 0, .int .u8 0, .int .u8 0]) rfl rfl (by kernel_rfl) (by kernel_rfl) (by kernel_rfl) (fun _ _ _ h => h) (Or.inl ⟨by rfl, fun W hSw => by (try dsimp only at hSw); go_simp⟩) (by assumption) ?_
      (try simp only [List.setIfInBounds_toArray, List.set_cons_zero, List.set_cons_succ])
      refine takx (i := 9) (D := 17) (v := .bool false) rfl rfl (by kernel_rfl) (by kernel_rfl) (by kernel_rfl) (fun _ _ _ h => h) (Or.inl ⟨by rfl, fun W hSw => by (try dsimp only at hSw); go_simp⟩) (by assumption) ?_
      (try simp only [List.setIfInBounds_toArray, List.set_cons_zero, List.set_cons_succ])
      refine wpAnyH_ready (rs := [11]) (by kernel_rfl) (by simp) ?_
      refine (AllReadyH.cons rfl (fun K hK => ?_) AllReadyH.nil)
      have qq := q4c k_n6
      go_simp
      clear qq
      refine hK.out _ _ ⟨(cks ne_c_n6 (cks ne_c_n6 (cks ne_c_n6 (cks ne_c_n6 hHeld.1)))), (cks ne_c_n6 (cks ne_c_n6 (cks ne_c_n6 (cks ne_c_n6 hHeld.2.1)))), (cks ne_c_n6 (cks ne_c_n6 (cks ne_c_n6 (cks ne_c_n6 hHeld.2.2.1)))), (cks ne_c_n6 (cks ne_c_n6 (cks ne_c_n6 (cks ne_c_n6 hHeld.2.2.2))))⟩ (fun hHeld => ?_)
      clear hK K
      (try simp only [List.setIfInBounds_toArray, List.set_cons_zero, List.set_cons_succ])
      obtain ⟨X17, eY⟩ : ∃ Y, Y = ((((X16.setCell ⟨g13, 0, none⟩ (.int .u8 0)).setCell ⟨g13, 1, none⟩ (.int .u8 0)).setCell ⟨g13, 2, none⟩ (.int .u8 0)).setCell ⟨g13, 3, none⟩ (.int .u8 0)) := ⟨_, rfl⟩
      rw [← eY] at hHeld ⊢
      replace k_c : X17.heap[w.heap.size]? = some (.cells #[.int .i64 a, .int .i64 b, .int .i64 c, .int .i64 d] 25 (0, 0)) := by rw [eY]; exact (bks ne_c_n6 (bks ne_c_n6 (bks ne_c_n6 (bks ne_c_n6 k_c))))
      replace k_r : X17.heap[w.heap.size + 1]? = some (.cells #[.int .i64 0, .int .i64 0, .int .i64 0, .int .i64 0] 25 (0, 0)) := by rw [eY]; exact (bks ne_r_n6 (bks ne_r_n6 (bks ne_r_n6 (bks ne_r_n6 k_r))))
      replace bw : Below w.heap.size w X17 := by rw [eY]; exact (bss lo_n6 (bss lo_n6 (bss lo_n6 (bss lo_n6 bw))))
      replace k_n6 : X17.heap[g13]? = some (.cells #[.int .u8 0, .int .u8 0, .int .u8 0, .int .u8 0] 44 (0, 0)) := by rw [eY]; exact q4s k_n6
      clear eY
      refine takx (i := 12) (D := 7) (v := .bool false) rfl rfl (by kernel_rfl) (by kernel_rfl) (by kernel_rfl) (fun _ _ _ h => h) (Or.inl ⟨by rfl, fun W hSw => by (try dsimp only at hSw); go_simp⟩) (by assumption) ?_
      (try simp only [List.setIfInBounds_toArray, List.set_cons_zero, List.set_cons_succ])
      refine wpAnyH_done (by kernel_rfl) ?_ _
      go_wp2_with fail
      go_meet
      exact ⟨rfl, k_r, bw⟩
  case rest =>
    obtain ⟨rfl, kr, bw⟩ := hcut
    obtain ⟨⟨s0, s1, s2, s3⟩, g0, g1, g2, g3⟩ := q4c kr
    clear kr
    go_wp2
    refine bodyPost_ret (v := .tuple #[.agg #[.int .i64 0, .int .i64 0, .int .i64 0, .int .i64 0], .bool false]) (by simp [results, Try.results15, go_sem, s0, s1, s2, s3]) rfl ?_
    exact ⟨rfl, bss (Nat.le_succ _) (bss (Nat.le_succ _) (bss (Nat.le_succ _) (bss (Nat.le_succ _) bw.out)))⟩

end Go.Proofs.Ytbhccckfooobcaa

/-
  Contract: spec.Inside. No condition.
-/
import Derived.Test.YtpijljokcoocpaaSP
import Derived.Test.YtpijljokcoocpaaS4
import Derived.Deep.AppendLies
namespace Go.Proofs.Ytpijljokcoocpaa
open Go.ChangeShapes Go.WideShapes Go.ChangeAt Go.RowKit
set_option linter.unusedVariables false
set_option linter.unusedSimpArgs false

theorem grun_ins (R : Q4) (g : GS) (ss : List Stp) (h : (grun R g ss).ins) : g.ins := by
  induction ss generalizing g with
  | nil => exact h
  | cons s ss ih => exact (ih (gstep R g s) h).1
theorem ins_cut (R : Q4) (g : GS) (ss : List Stp) (k : Nat) (h : ¬ (grun R g (ss.take k)).ins) : ¬ (grun R g ss).ins := by
  intro h'
  rw [← List.take_append_drop k ss, grun_app] at h'
  exact h (grun_ins R _ _ h')
/-- What spec.Inside hands back. -/
def InsOut (ins : Prop) (w : World) (e : Ending) (w' : World) : Prop := ∃ B : Bool, e = .returned (.bool B) ∧ (B = true ↔ ins) ∧ Below w.heap.size w w'
/-- What is seen, in the midst of spec.Inside. -/
structure VInv (w : World) (R : Q4) (g : GS) (q : Q4) (sb : Bool) (X : World) : Prop where
  bel : Below w.heap.size w X
  rb : X.heap[w.heap.size]? = some (.cells #[.int .i64 R.a, .int .i64 R.b, .int .i64 R.c, .int .i64 R.d] 26 (0, 0))
  se : X.heap[w.heap.size + 1]? = some (.cells #[.int .i64 q.a, .int .i64 q.b, .int .i64 q.c, .int .i64 q.d] 26 (0, 0))
  view : (g.v = some q ∧ sb = true) ∨ (g.v = none ∧ sb = false)
section
variable {w X Y : World} {R q : Q4} {g g' : GS} {sb : Bool}
theorem VInv.below (h : VInv w R g q sb X) (bc : Below X.heap.size X Y) : VInv w R g q sb Y := ⟨bst bc h.bel, bk bc h.rb, bk bc h.se, h.view⟩
theorem VInv.same (h : VInv w R g q sb X) (e : g'.v = g.v) : VInv w R g' q sb X := ⟨h.bel, h.rb, h.se, by rw [e]; exact h.view⟩
theorem VInv.look (h : VInv w R g q sb X) {p : Q4} {sb' : Bool} (hv : (g'.v = some p ∧ sb' = true) ∨ (g'.v = none ∧ sb' = false)) :
    VInv w R g' p sb' ((((X.setCell ⟨w.heap.size + 1, 0, none⟩ (.int .i64 p.a)).setCell ⟨w.heap.size + 1, 1, none⟩ (.int .i64 p.b)).setCell ⟨w.heap.size + 1, 2, none⟩ (.int .i64 p.c)).setCell ⟨w.heap.size + 1, 3, none⟩ (.int .i64 p.d)) := by
  have hl : w.heap.size ≤ w.heap.size + 1 := Nat.le_succ _
  have hn : ¬ w.heap.size = w.heap.size + 1 := by omega
  exact ⟨bss hl (bss hl (bss hl (bss hl h.bel))), bks hn (bks hn (bks hn (bks hn h.rb))), q4s h.se, hv⟩
end

set_option maxRecDepth 100000 in
set_option maxHeartbeats 4000000 in
theorem inside_any (a b c d : Int) (bs : List Int) (m cs : Nat) (S : Option Addr) (ss : List Stp) (w : World) (hs : RdSteps w w.heap.size S m ss) :
    Calls Try.prog 43 #[.agg #[.int .i64 a, .int .i64 b, .int .i64 c, .int .i64 d], .slice S m cs] w (InsOut (grun ⟨a, b, c, d⟩ (gini ⟨a, b, c, d⟩ bs) ss).ins w) := by
  have HS := Lib.hid hs
  have hm88 : m * 88 ≤ 140737488355328 := hs.2.1
  clear hs
  have inv0 := Lib.hid (show VInv w ⟨a, b, c, d⟩ (gini ⟨a, b, c, d⟩ bs) ⟨a, b, c, d⟩ true ((w.alloc (.cells #[.int .i64 a, .int .i64 b, .int .i64 c, .int .i64 d] 26)).alloc (.cells #[.int .i64 a, .int .i64 b, .int .i64 c, .int .i64 d] 26)) from ⟨bsa (bsa (Below.refl _ _)), bka (heap_alloc_new w _), heap_new2 w _ _, .inl ⟨rfl, rfl⟩⟩)
  go_enter Try.func43, Try.ntmps43
  go_wp2_with fail
  go_loopw [12, 8, 6] (fun i _ sm wr => ∃ (k : Nat) (q : Q4) (sb : Bool), k ≤ m ∧ i = .int .i64 k ∧ sm = .bool sb ∧ Hid (VInv w ⟨a, b, c, d⟩ (grun ⟨a, b, c, d⟩ (gini ⟨a, b, c, d⟩ bs) (ss.take k)) q sb wr) ∧ Hid (grun ⟨a, b, c, d⟩ (gini ⟨a, b, c, d⟩ bs) (ss.take k)).ins) (fun i _ _ _ => m - (intOf i).toNat)
  case atStart => exact ⟨0, ⟨a, b, c, d⟩, true, by omega, rfl, rfl, inv0, trivial⟩
  case round =>
    obtain ⟨k, q, sb, hk, rfl, rfl, HI, HINS⟩ := hrel
    by_cases hlt : k < m
    · obtain ⟨bl, off, rfl, hbw, _⟩ := HS.out.2.2.2 (by omega)
      have hx := (HS.out.below HI.out.bel).at hlt
      have ET := Lib.hid (grun_take ⟨a, b, c, d⟩ (gini ⟨a, b, c, d⟩ bs) ss k (by rw [HS.out.1]; exact hlt))
      generalize ss.getD k default = s at hx ET
      obtain ⟨kk, x, y, ⟨c1, c2, c3, c4⟩, ⟨p, r0, r, t⟩⟩ := s
      have x0 : wr.cell? ⟨bl, off + k * 11, none⟩ = some (.int .i64 kk) := hx 0 _ rfl
      have x1 : wr.cell? ⟨bl, off + k * 11 + 1, none⟩ = some (.int .i64 x) := hx 1 _ rfl
      have x2 : wr.cell? ⟨bl, off + k * 11 + 2, none⟩ = some (.int .i64 y) := hx 2 _ rfl
      have x3 : wr.cell? ⟨bl, off + k * 11 + 3, none⟩ = some (.int .i64 c1) := hx 3 _ rfl
      have x4 : wr.cell? ⟨bl, off + k * 11 + 4, none⟩ = some (.int .i64 c2) := hx 4 _ rfl
      have x5 : wr.cell? ⟨bl, off + k * 11 + 5, none⟩ = some (.int .i64 c3) := hx 5 _ rfl
      have x6 : wr.cell? ⟨bl, off + k * 11 + 6, none⟩ = some (.int .i64 c4) := hx 6 _ rfl
      have x7 : wr.cell? ⟨bl, off + k * 11 + 7, none⟩ = some (.int .i64 p) := hx 7 _ rfl
      have x8 : wr.cell? ⟨bl, off + k * 11 + 8, none⟩ = some (.int .i64 r0) := hx 8 _ rfl
      have x9 : wr.cell? ⟨bl, off + k * 11 + 9, none⟩ = some (.int .i64 r) := hx 9 _ rfl
      have x10 : wr.cell? ⟨bl, off + k * 11 + 10, none⟩ = some (.int .i64 t) := hx 10 _ rfl
      generalize hgg : grun ⟨a, b, c, d⟩ (gini ⟨a, b, c, d⟩ bs) (ss.take k) = g at HI HINS ET
      clear hx hgg
      go_upto_region 5 with fail
      obtain ⟨W, gst, hW, hgs⟩ : ∃ W g, W = wr.alloc (.cells #[.int .i64 kk, .int .i64 x, .int .i64 y, .int .i64 c1, .int .i64 c2, .int .i64 c3, .int .i64 c4, .int .i64 p, .int .i64 r0, .int .i64 r, .int .i64 t] 62) ∧ g = wr.heap.size := ⟨_, _, rfl, rfl⟩
      have inv1 : VInv w ⟨a, b, c, d⟩ g q sb W := by rw [hW]; exact HI.out.below ((Below.refl _ _).alloc (Nat.le_refl _) _)
      have k_s : W.heap[gst]? = some (.cells #[.int .i64 kk, .int .i64 x, .int .i64 y, .int .i64 c1, .int .i64 c2, .int .i64 c3, .int .i64 c4, .int .i64 p, .int .i64 r0, .int .i64 r, .int .i64 t] 62 (0, 0)) := by rw [hW, hgs]; exact heap_alloc_new wr _
      rw [← hW, ← hgs]
      have q_s := (q11c k_s).1
      have q_se := q4c inv1.se
      have q_r := (q4c inv1.rb).1
      have hview := inv1.view
      clear hW hgs x0 x1 x2 x3 x4 x5 x6 x7 x8 x9 x10 HI
      by_cases e1 : kk = 1
      · subst e1
        rcases hview with ⟨hvq, rfl⟩ | ⟨hvq, rfl⟩
        · by_cases hin : In q.a q.b q.c q.d x y
          · have hvis : Vis g.v x y := by rw [hvq]; exact vis_some.2 hin
            go_wp2_with fail
            refine (sHas_yes q.a q.b q.c q.d x y hin _).mono ?_
            rintro e Y ⟨rfl, bc⟩
            have inv2 := Lib.hid (inv1.below bc)
            clear inv1 bc q_s q_se q_r k_s
            go_wp2
            go_roundw
            case rel => exact ⟨k + 1, q, true, by omega, by go_num, rfl, by rw [ET.out]; exact inv2.out.same (by simp [gstep, see]), by rw [ET.out]; exact ⟨HINS.out, fun _ => hvis⟩⟩
            case measure => simp [intOf]; omega
          · have hvis : ¬ Vis g.v x y := by rw [hvq]; exact fun h => hin (vis_some.1 h)
            go_wp2_with fail
            refine (sHas_no q.a q.b q.c q.d x y hin _).mono ?_
            rintro e Y ⟨rfl, bc⟩
            have BW := Lib.hid (inv1.below bc).bel
            clear inv1 bc q_s q_se q_r k_s
            go_wp2
            go_ret
            exact ⟨false, rfl, ⟨fun h => (by cases h), fun h => absurd h (ins_cut _ _ _ (k + 1) (by rw [ET.out]; exact fun hh => hvis (hh.2 (Or.inl rfl))))⟩, BW.out⟩
        · have hvis : ¬ Vis g.v x y := by rw [hvq]; exact not_vis_none
          have BW := Lib.hid inv1.bel
          clear inv1
          go_wp2
          go_ret
          exact ⟨false, rfl, ⟨fun h => (by cases h), fun h => absurd h (ins_cut _ _ _ (k + 1) (by rw [ET.out]; exact fun hh => hvis (hh.2 (Or.inl rfl))))⟩, BW.out⟩
      by_cases e2 : kk = 2
      · subst e2
        rcases hview with ⟨hvq, rfl⟩ | ⟨hvq, rfl⟩
        · by_cases hin : In q.a q.b q.c q.d x y
          · have hvis : Vis g.v x y := by rw [hvq]; exact vis_some.2 hin
            go_wp2_with fail
            refine (sHas_yes q.a q.b q.c q.d x y hin _).mono ?_
            rintro e Y ⟨rfl, bc⟩
            have inv2 := Lib.hid (inv1.below bc)
            clear inv1 bc q_s q_se q_r k_s
            go_wp2
            go_roundw
            case rel => exact ⟨k + 1, q, true, by omega, by go_num, rfl, by rw [ET.out]; exact inv2.out.same (by simp [gstep, see]), by rw [ET.out]; exact ⟨HINS.out, fun _ => hvis⟩⟩
            case measure => simp [intOf]; omega
          · have hvis : ¬ Vis g.v x y := by rw [hvq]; exact fun h => hin (vis_some.1 h)
            go_wp2_with fail
            refine (sHas_no q.a q.b q.c q.d x y hin _).mono ?_
            rintro e Y ⟨rfl, bc⟩
            have BW := Lib.hid (inv1.below bc).bel
            clear inv1 bc q_s q_se q_r k_s
            go_wp2
            go_ret
            exact ⟨false, rfl, ⟨fun h => (by cases h), fun h => absurd h (ins_cut _ _ _ (k + 1) (by rw [ET.out]; exact fun hh => hvis (hh.2 (Or.inr (Or.inl rfl)))))⟩, BW.out⟩
        · have hvis : ¬ Vis g.v x y := by rw [hvq]; exact not_vis_none
          have BW := Lib.hid inv1.bel
          clear inv1
          go_wp2
          go_ret
          exact ⟨false, rfl, ⟨fun h => (by cases h), fun h => absurd h (ins_cut _ _ _ (k + 1) (by rw [ET.out]; exact fun hh => hvis (hh.2 (Or.inr (Or.inl rfl)))))⟩, BW.out⟩
      by_cases e3 : kk = 3
      · subst e3
        rcases hview with ⟨hvq, rfl⟩ | ⟨hvq, rfl⟩
        · by_cases hin : In q.a q.b q.c q.d x y
          · have hvis : Vis g.v x y := by rw [hvq]; exact vis_some.2 hin
            go_wp2_with fail
            refine (sHas_yes q.a q.b q.c q.d x y hin _).mono ?_
            rintro e Y ⟨rfl, bc⟩
            have inv2 := Lib.hid (inv1.below bc)
            clear inv1 bc q_s q_se q_r k_s
            go_wp2
            go_roundw
            case rel => exact ⟨k + 1, q, true, by omega, by go_num, rfl, by rw [ET.out]; exact inv2.out.same (by simp [gstep, see]), by rw [ET.out]; exact ⟨HINS.out, fun _ => hvis⟩⟩
            case measure => simp [intOf]; omega
          · have hvis : ¬ Vis g.v x y := by rw [hvq]; exact fun h => hin (vis_some.1 h)
            go_wp2_with fail
            refine (sHas_no q.a q.b q.c q.d x y hin _).mono ?_
            rintro e Y ⟨rfl, bc⟩
            have BW := Lib.hid (inv1.below bc).bel
            clear inv1 bc q_s q_se q_r k_s
            go_wp2
            go_ret
            exact ⟨false, rfl, ⟨fun h => (by cases h), fun h => absurd h (ins_cut _ _ _ (k + 1) (by rw [ET.out]; exact fun hh => hvis (hh.2 (Or.inr (Or.inr rfl)))))⟩, BW.out⟩
        · have hvis : ¬ Vis g.v x y := by rw [hvq]; exact not_vis_none
          have BW := Lib.hid inv1.bel
          clear inv1
          go_wp2
          go_ret
          exact ⟨false, rfl, ⟨fun h => (by cases h), fun h => absurd h (ins_cut _ _ _ (k + 1) (by rw [ET.out]; exact fun hh => hvis (hh.2 (Or.inr (Or.inr rfl)))))⟩, BW.out⟩
      by_cases e4 : kk = 4
      · subst e4
        rcases hview with ⟨hvq, rfl⟩ | ⟨hvq, rfl⟩
        · cases hc0 : com q ⟨p, r0, r, t⟩ with
          | none =>
            go_wp2_with fail
            refine (common_none q ⟨p, r0, r, t⟩ hc0 _).mono ?_
            rintro e Y1 ⟨rfl, bc⟩
            have inv3 := inv1.below bc
            clear bc inv1 q_s q_se q_r k_s
            have q_se := q4c inv3.se
            have inv5 := Lib.hid (inv3.look (g' := gstep ⟨a, b, c, d⟩ g ⟨4, x, y, ⟨c1, c2, c3, c4⟩, ⟨p, r0, r, t⟩⟩) (p := ⟨0, 0, 0, 0⟩) (sb' := false) (.inr ⟨by simp [gstep, see, hvq, hc0], rfl⟩))
            clear inv3
            go_wp2
            go_roundw
            case rel => exact ⟨k + 1, ⟨0, 0, 0, 0⟩, false, by omega, by go_num, rfl, by rw [ET.out]; exact inv5.out, by rw [ET.out]; exact ⟨HINS.out, fun h => by rcases h with h | h | h <;> simp at h⟩⟩
            case measure => simp [intOf]; omega
          | some p1 =>
            go_wp2_with fail
            refine (common_some q ⟨p, r0, r, t⟩ p1 hc0 _).mono ?_
            rintro e Y1 ⟨rfl, bc⟩
            have inv3 := inv1.below bc
            clear bc inv1 q_s q_se q_r k_s
            have q_se := q4c inv3.se
            have inv5 := Lib.hid (inv3.look (g' := gstep ⟨a, b, c, d⟩ g ⟨4, x, y, ⟨c1, c2, c3, c4⟩, ⟨p, r0, r, t⟩⟩) (p := p1) (sb' := true) (.inl ⟨by simp [gstep, see, hvq, hc0], rfl⟩))
            clear inv3
            go_wp2
            go_roundw
            case rel => exact ⟨k + 1, p1, true, by omega, by go_num, rfl, by rw [ET.out]; exact inv5.out, by rw [ET.out]; exact ⟨HINS.out, fun h => by rcases h with h | h | h <;> simp at h⟩⟩
            case measure => simp [intOf]; omega
        · have inv5 := Lib.hid (inv1.same (g' := gstep ⟨a, b, c, d⟩ g ⟨4, x, y, ⟨c1, c2, c3, c4⟩, ⟨p, r0, r, t⟩⟩) (by simp [gstep, see, hvq]))
          clear inv1
          go_wp2
          go_roundw
          case rel => exact ⟨k + 1, q, false, by omega, by go_num, rfl, by rw [ET.out]; exact inv5.out, by rw [ET.out]; exact ⟨HINS.out, fun h => by rcases h with h | h | h <;> simp at h⟩⟩
          case measure => simp [intOf]; omega
      by_cases e5 : kk = 5
      · subst e5
        have inv5 := Lib.hid (inv1.look (g' := gstep ⟨a, b, c, d⟩ g ⟨5, x, y, ⟨c1, c2, c3, c4⟩, ⟨p, r0, r, t⟩⟩) (p := ⟨a, b, c, d⟩) (sb' := true) (.inl ⟨by simp [gstep, see], rfl⟩))
        clear inv1
        go_wp2
        go_roundw
        case rel => exact ⟨k + 1, ⟨a, b, c, d⟩, true, by omega, by go_num, rfl, by rw [ET.out]; exact inv5.out, by rw [ET.out]; exact ⟨HINS.out, fun h => by rcases h with h | h | h <;> simp at h⟩⟩
        case measure => simp [intOf]; omega
      have t1 : (kk == 1) = false := by simpa using e1
      have t2 : (kk == 2) = false := by simpa using e2
      have t3 : (kk == 3) = false := by simpa using e3
      have t4 : (kk == 4) = false := by simpa using e4
      have t5 : (kk == 5) = false := by simpa using e5
      have inv5 := Lib.hid (inv1.same (g' := gstep ⟨a, b, c, d⟩ g ⟨kk, x, y, ⟨c1, c2, c3, c4⟩, ⟨p, r0, r, t⟩⟩) (by simp [gstep, see, e4, e5]))
      clear inv1
      go_wp2
      go_roundw
      case rel => exact ⟨k + 1, q, sb, by omega, by go_num, rfl, by rw [ET.out]; exact inv5.out, by rw [ET.out]; exact ⟨HINS.out, fun h => by rcases h with h | h | h; exact absurd h e1; exact absurd h e2; exact absurd h e3⟩⟩
      case measure => simp [intOf]; omega
    · obtain rfl : k = m := by omega
      have hts : ss.take k = ss := List.take_of_length_le (by rw [HS.out.1]; exact Nat.le_refl _)
      rw [hts] at HI HINS
      have BW := Lib.hid HI.out.bel
      clear HI
      go_wp2
      go_ret
      exact ⟨true, rfl, ⟨fun _ => HINS.out, fun _ => rfl⟩, BW.out⟩

end Go.Proofs.Ytpijljokcoocpaa

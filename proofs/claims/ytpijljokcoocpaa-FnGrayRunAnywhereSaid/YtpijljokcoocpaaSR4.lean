/-
  Contract: a script by the reference, spec.run. No condition.
-/
import Derived.Test.YtpijljokcoocpaaSR3
import Derived.Laws.CopyOwn
import Derived.Deep.AppendLies
namespace Go.Proofs.Ytpijljokcoocpaa
open Go.ChangeShapes Go.WideShapes Go.ChangeAt Go.RowKit
set_option linter.unusedVariables false
set_option linter.unusedSimpArgs false

theorem mk_ints (N : Nat) (hN : N ≤ 4000000) (W : World) : (Instr.makeSlice 27 (.int .i64 (N : Int)) (.int .i64 (N : Int))).run Try.prog W = .ok (.slice (some ⟨W.heap.size, 0, none⟩) N N) (W.alloc (.cells ((List.replicate N (0 : Int)).map (Value.int .i64)).toArray 3)) := by
  obtain ⟨i0, hi, hz0, hz1, hz2⟩ := info_parts (show (Try.prog.info? 3).map (fun i => (i.zero, i.size, i.bytes)) = some (some (.int .i64 0), 1, 8) from by kernel_rfl)
  have hr := run_make (P := Try.prog) W 27 3 i0 (.int .i64 0) Try.underlying27 hi hz0 .i64 .i64 N N (by omega) (by omega) (by rw [hz2]; omega) (by omega)
  rw [hr]
  simp only [Int.toNat_natCast, hz1, Value.cells, made_ints]
theorem place_free (a b c d st m x y : Int) (w : World) :
    Calls Try.prog 54 #[.agg #[.int .i64 a, .int .i64 b, .int .i64 c, .int .i64 d], .int .i64 st, .int .i64 m, .int .i64 x, .int .i64 y] w fun e w' => ∃ i : Int, e = .returned (.int .i64 i) ∧ I64 i ∧ Below w.heap.size w w' := by
  go_enter Try.func54, Try.ntmps54
  go_wp2
  go_ret
  exact ⟨_, rfl, wrap_I64 _, (Below.refl _ _).alloc (Nat.le_refl _) _⟩
section
variable {R q : Q4} {N pb : Nat} {bs : List Int} {w : World} {x y : Int}
theorem viewPaint (h3 : 0 ≤ R.c - R.a) (h4 : R.c - R.a ≤ 1000) (h5 : 0 ≤ R.d - R.b) (h6 : R.d - R.b ≤ 1000) (hN : (R.c - R.a) * (R.d - R.b) = N) (hL : Lies R q) (hin : In q.a q.b q.c q.d x y) (hp : IPix w pb bs) (hl : bs.length = N) (z : Q4) (hz : z.ok) (g1 : Nat) (hb : w.heap[g1]? = some (.cells #[.int .i64 z.a, .int .i64 z.b, .int .i64 z.c, .int .i64 z.d] 3 (0, 0))) (hne : g1 ≠ pb) :
    Calls Try.prog 58 #[.agg #[.int .i64 R.a, .int .i64 R.b, .int .i64 R.c, .int .i64 R.d, .int .i64 (R.c - R.a), .slice (some ⟨pb, 0, none⟩) N N], .agg #[.int .i64 q.a, .int .i64 q.b, .int .i64 q.c, .int .i64 q.d], .int .i64 x, .int .i64 y, .slice (some ⟨g1, 0, none⟩) 1 4] w
      fun e w' => e = .returned (.tuple #[]) ∧ IPix w' pb (painted R (some q) bs x y (z.a % 256)) ∧ w.grownBy w' (some pb) := by
  have kN := area_le h3 h4 h5 h6 hN
  have hR := hL.inn hin
  obtain ⟨o, ho, hoN⟩ := place_lt hN hR
  rw [painted_in hin, wrAt_in hR ho]
  obtain ⟨z1, z2, z3, z4⟩ := hz
  have rd : Rd w w.heap.size (some ⟨g1, 0, none⟩) 1 [z.a] := by
    refine ⟨rfl, by omega, ?_, fun _ => ⟨g1, 0, rfl, lt_of_block hb, fun j hj => ?_⟩⟩
    · intro u hu
      simp only [List.mem_cons, List.not_mem_nil, or_false] at hu
      subst hu; exact z1
    · have c := fun i => cell_of_row w g1 i _ _ (0, 0) hb
      obtain rfl : j = 0 := by omega
      exact c 0
  obtain ⟨i1, i2, i3, i4⟩ := hR
  exact paint_in R.a R.b R.c R.d q.a q.b q.c q.d (R.c - R.a) x y pb N o 1 4 _ bs [z.a] w hin hp hl (by omega) rd (by omega) (fun b' o' h => by injection h with h; injection h with h; omega) (by omega) (by omega) (by omega) (by omega) (by omega) (by omega) (by rw [← ho]; omega) (by omega)
theorem pix_src {o : Nat} (hp : IPix w pb bs) (h : o + 1 ≤ bs.length) : ∀ j v, ((colN (bs.getD o 0)).map (Value.int .i64))[j]? = some v → w.cell? ((⟨pb, o, none⟩ : Addr).add j) = some v := by
  intro j v hj
  rw [Addr.add_lit]
  match j, hj with
  | 0, hj => simp [colN] at hj; subst hj; exact hp.cell (by omega)
theorem seen_out (R : Q4) {v : Option Q4} {bs : List Int} {x y : Int} (h : ¬ Vis v x y) : seen R v bs x y = 0 := by unfold seen; rw [if_neg h]
theorem painted_out (R : Q4) {v : Option Q4} {bs : List Int} {x y : Int} {z : Int} (h : ¬ Vis v x y) : painted R v bs x y z = bs := by unfold painted; rw [if_neg h]
end
/-- What the reference's script hands back. -/
def SRunOut (a b c d : Int) (N : Nat) (g : GS) (w : World) (e : Ending) (w' : World) : Prop :=
  ∃ base Vc cc vs Vo co os pb, e = .returned (.tuple #[.slice Vc g.cs.length cc, .slice Vo (os : List Int).length co, .agg #[.int .i64 a, .int .i64 b, .int .i64 c, .int .i64 d, .int .i64 (c - a), .slice (some ⟨pb, 0, none⟩) N N]]) ∧
    w'.ownsRow base 27 1 (.slice Vc g.cs.length cc) g.cs.length vs ∧ ColRow w' base (.slice Vo os.length co) vs g.cs ∧ Rd w' w'.heap.size Vo os.length os ∧ os.length = g.os.length ∧ (g.ins → os = g.os) ∧ IPix w' pb g.bs ∧ (∀ b o, Vo = some ⟨b, o, none⟩ → w.heap.size ≤ b) ∧ w.heap.size ≤ pb ∧ w.heap.size ≤ base ∧ Below w.heap.size w w'

set_option maxRecDepth 100000 in
set_option maxHeartbeats 3000000 in
theorem srun_any (a b c d : Int) (N : Nat) (h3 : 0 ≤ c - a) (h4 : c - a ≤ 1000) (h5 : 0 ≤ d - b) (h6 : d - b ≤ 1000) (hN : (c - a) * (d - b) = N) (n cp : Nat) (Z : Option Addr) (zs : List Int) (m cs : Nat) (S : Option Addr) (ss : List Stp) (w : World) (hr : Rd w w.heap.size Z n zs) (hs : RdSteps w w.heap.size S m ss) :
    Calls Try.prog 62 #[.agg #[.int .i64 a, .int .i64 b, .int .i64 c, .int .i64 d], .int .i64 1, .slice Z n cp, .slice S m cs] w (SRunOut a b c d N (grun ⟨a, b, c, d⟩ (gini ⟨a, b, c, d⟩ (byt N zs)) ss) w) := by
  have kN := area_le h3 h4 h5 h6 hN
  have HN := Lib.hid hN
  have HR := Lib.hid hr
  have HS := Lib.hid hs
  have hm88 : m * 88 ≤ 140737488355328 := hs.2.1
  clear hN hr hs
  obtain ⟨i0, hi, hz0, hz1, hz2⟩ := info_parts (show (Try.prog.info? 3).map (fun i => (i.zero, i.size, i.bytes)) = some (some (.int .i64 0), 1, 8) from by kernel_rfl)
  obtain ⟨j0, hj, hy0, hy1, hy2⟩ := info_parts (show (Try.prog.info? 27).map (fun i => (i.zero, i.size, i.bytes)) = some (some (.slice none 0 0), 1, 24) from by kernel_rfl)
  have hI1 : (Try.prog.info? 3).map (·.size) = some 1 := by kernel_rfl
  have b0 : Below w.heap.size w ((w.alloc (.cells #[.int .i64 a, .int .i64 b, .int .i64 c, .int .i64 d] 26)).alloc (.cells #[.int .i64 0, .int .i64 0, .int .i64 0, .int .i64 0, .int .i64 0, .slice none 0 0] 29)) := bsa (bsa (Below.refl _ _))
  go_enter Try.func62, Try.ntmps62
  go_wp2_with fail
  refine (made_gray a b c d N h3 h4 h5 h6 HN.out n cp Z zs _ ((HR.out.below b0).more b0.size)).mono ?_
  rintro e w1 ⟨pb, rfl, hpb, hpx, b1⟩
  have bw1 := bst b1 b0
  have k_r : w1.heap[w.heap.size]? = some (.cells #[.int .i64 a, .int .i64 b, .int .i64 c, .int .i64 d] 26 (0, 0)) := bk b1 (bka (heap_alloc_new w _))
  have k_z := bk b1 (heap_new2 w _ _)
  have hw1 : w.heap.size + 2 ≤ w1.heap.size := by have := b1.size; simpa using this
  have hpw : w.heap.size + 2 ≤ pb := by simpa using hpb
  have hpl := hpx.lt
  have inv0 := Lib.hid (show SInv w (w1.heap.size + 2) w.heap.size w1.heap.size (w1.heap.size + 1) (w.heap.size + 1) pb N ⟨a, b, c, d⟩ (gini ⟨a, b, c, d⟩ (byt N zs)) ⟨a, b, c, d⟩ true (.slice none 0 0) (.slice none 0 0) [] [] ((w1.alloc (.cells #[.int .i64 a, .int .i64 b, .int .i64 c, .int .i64 d, .int .i64 (c - a), .slice (some ⟨pb, 0, none⟩) N N] 29)).alloc (.cells #[.int .i64 a, .int .i64 b, .int .i64 c, .int .i64 d] 26)) from
    { bel := bsa (bsa bw1), res := bka (bka k_z), rb := bka (bka k_r), al := bka (heap_alloc_new w1 _), se := heap_new2 w1 _ _, view := .inl ⟨rfl, rfl⟩, pix := ⟨bka (bka hpx.1), hpx.2⟩, col := World.ownsRow_nil _ _ _ _, row := ColRow.nil _ _ _, off := World.ownsRow_nil _ _ _ _, lb := by simp, lz := by omega, ls := by omega, lp := by omega, hp := by omega, hs := by omega, hz := by omega, nr := by omega, na := by omega, nz := by omega, np := by omega, nza := by omega, olen := rfl, oin := fun _ => rfl, oI := fun u hu => by cases hu })
  have q_r := (q4c k_r).1
  have hlt1 : w.heap.size < w1.heap.size := by omega
  clear bw1 b1 b0 k_r k_z hpx hpb
  go_wp2_with fail
  clear q_r hlt1
  go_loopw [29, 17, 13, 14, 15] (fun i _ sm vc vo wr => ∃ (k : Nat) (q : Q4) (sb : Bool) (vs : List Value) (os : List Int), k ≤ m ∧ i = .int .i64 k ∧ sm = .bool sb ∧ Hid (SInv w (w1.heap.size + 2) w.heap.size w1.heap.size (w1.heap.size + 1) (w.heap.size + 1) pb N ⟨a, b, c, d⟩ (grun ⟨a, b, c, d⟩ (gini ⟨a, b, c, d⟩ (byt N zs)) (ss.take k)) q sb vc vo vs os wr)) (fun i _ _ _ _ _ => m - (intOf i).toNat)
  case atStart => exact ⟨0, ⟨a, b, c, d⟩, true, [], [], by omega, rfl, rfl, inv0⟩
  case round =>
    obtain ⟨k, q, sb, vs, os, hk, rfl, rfl, HI⟩ := hrel
    have hlen := grun_len ⟨a, b, c, d⟩ (gini ⟨a, b, c, d⟩ (byt N zs)) (ss.take k)
    have GK := Lib.hid ((gini_ok ⟨a, b, c, d⟩ N zs).run (ss.take k))
    have hcl : (ss.take k).length ≤ k := List.length_take_le _ _
    by_cases hlt : k < m
    · obtain ⟨bl, off, rfl, hbw, _⟩ := HS.out.2.2.2 (by omega)
      have hx := (HS.out.below HI.out.bel).at hlt
      have hsok := HS.out.2.2.1 (ss.getD k default) (by rw [List.getD, List.getElem?_eq_getElem (by rw [HS.out.1]; exact hlt)]; exact List.getElem_mem _)
      have ET := Lib.hid (grun_take ⟨a, b, c, d⟩ (gini ⟨a, b, c, d⟩ (byt N zs)) ss k (by rw [HS.out.1]; exact hlt))
      generalize ss.getD k default = s at hx ET hsok
      obtain ⟨kk, x, y, ⟨c1, c2, c3, c4⟩, ⟨p, r0, r, t⟩⟩ := s
      have x0 : wr.cell? ⟨bl, off + k * 11, none⟩ = some (.int .i64 kk) := hx 0 _ rfl
      have x1 : wr.cell? ⟨bl, off + k * 11 + 1, none⟩ = some (.int .i64 x) := hx 1 _ rfl
      have x2 : wr.cell? ⟨bl, off + k * 11 + 2, none⟩ = some (.int .i64 y) := hx 2 _ rfl
      have x3 : wr.cell? ⟨bl, off + k * 11 + 3, none⟩ = some (.int .i64 c1) := hx 3 _ rfl
      have x4 : wr.cell? ⟨bl, off + k * 11 + 4, none⟩ = some (.int .i64 c2) := hx 4 _ rfl
      have x5 : wr.cell? ⟨bl, off + k * 11 + 5, none⟩ = some (.int .i64 c3) := hx 5 _ rfl
      have x6 : wr.cell? ⟨bl, off + k * 11 + 6, none⟩ = some (.int .i64 c4) := hx 6 _ rfl
      have x7 : wr.cell? ⟨bl, off + k * 11 + 7, none⟩ = some (.int .i64 p) := hx 7 _ rfl
      have x8 : wr.cell? ⟨bl, off + k * 11 + 8, none⟩ = some (.int .i64 r0) := hx 8 _ rfl
      have x9 : wr.cell? ⟨bl, off + k * 11 + 9, none⟩ = some (.int .i64 r) := hx 9 _ rfl
      have x10 : wr.cell? ⟨bl, off + k * 11 + 10, none⟩ = some (.int .i64 t) := hx 10 _ rfl
      generalize hgg : grun ⟨a, b, c, d⟩ (gini ⟨a, b, c, d⟩ (byt N zs)) (ss.take k) = g at HI GK ET hlen
      have hcs : g.cs.length ≤ k := by have := hlen.1; simp only [gini, List.length_nil] at this; omega
      have hos : os.length ≤ k := by have := hlen.2; have := HI.out.olen; simp only [gini, List.length_nil] at hlen; omega
      clear hx hgg hlen hcl
      obtain ⟨Vc, cc, rfl⟩ := own_slice HI.out.col
      obtain ⟨Vo, co, rfl⟩ := own_slice HI.out.off
      go_upto_region 8 with fail
      obtain ⟨W, gst, hW, hgs⟩ : ∃ W g, W = wr.alloc (.cells #[.int .i64 kk, .int .i64 x, .int .i64 y, .int .i64 c1, .int .i64 c2, .int .i64 c3, .int .i64 c4, .int .i64 p, .int .i64 r0, .int .i64 r, .int .i64 t] 62) ∧ g = wr.heap.size := ⟨_, _, rfl, rfl⟩
      have inv1 : SInv w (w1.heap.size + 2) w.heap.size w1.heap.size (w1.heap.size + 1) (w.heap.size + 1) pb N ⟨a, b, c, d⟩ g q sb (.slice Vc g.cs.length cc) (.slice Vo os.length co) vs os W := by rw [hW]; exact HI.out.below ((Below.refl _ _).alloc (Nat.le_refl _) _)
      have k_s : W.heap[gst]? = some (.cells #[.int .i64 kk, .int .i64 x, .int .i64 y, .int .i64 c1, .int .i64 c2, .int .i64 c3, .int .i64 c4, .int .i64 p, .int .i64 r0, .int .i64 r, .int .i64 t] 62 (0, 0)) := by rw [hW, hgs]; exact heap_alloc_new wr _
      rw [← hW, ← hgs]
      have hview := inv1.view
      have ls0 : w1.heap.size + 2 ≤ gst := by rw [hgs]; exact HI.out.lb
      clear hW hgs x0 x1 x2 x3 x4 x5 x6 x7 x8 x9 x10 HI
      rcases hview with ⟨hvq, rfl⟩ | ⟨hvq, rfl⟩
      · have hLq := (GK.out.view q hvq).1
        by_cases hin : In q.a q.b q.c q.d x y
        · have hvis : Vis g.v x y := by rw [hvq]; exact vis_some.2 hin
          have q_se := q4c inv1.se
          have q_s := (q11c k_s).1
          go_wp2_with fail
          refine (sHas_yes q.a q.b q.c q.d x y hin _).mono ?_
          rintro e Y ⟨rfl, bc⟩
          have inv2 := inv1.below bc
          replace k_s := bk bc k_s
          clear inv1 bc q_se q_s
          have q_s := (q11c k_s).1
          have q_se := q4c inv2.se
          have q_al := (q6c inv2.al).1
          have q_r := (q4c inv2.rb).1
          by_cases e1 : kk = 1
          · subst e1
            have ES := Lib.hid (ET.out.trans (gstep1 ⟨a, b, c, d⟩ g _ rfl))
            go_upto_region 13 with fail
            obtain ⟨Y1, gc, hY, hgc⟩ : ∃ Y1 g, Y1 = Y.alloc (.cells #[.int .i64 c1, .int .i64 c2, .int .i64 c3, .int .i64 c4] 3) ∧ g = Y.heap.size := ⟨_, _, rfl, rfl⟩
            rw [← hY, ← hgc]
            have bc : Below Y.heap.size Y Y1 := by rw [hY]; exact (Below.refl _ _).alloc (Nat.le_refl _) _
            have k_c : Y1.heap[gc]? = some (.cells #[.int .i64 c1, .int .i64 c2, .int .i64 c3, .int .i64 c4] 3 (0, 0)) := by rw [hY, hgc]; exact heap_alloc_new Y _
            have inv3 := inv2.below bc
            replace k_s := bk bc k_s
            have hcp : gc ≠ pb := by rw [hgc]; have := inv2.pix.lt; omega
            clear bc hY hgc inv2 q_s q_se q_al q_r
            have q_s := (q11c k_s).1
            have q_se := (q4c inv3.se).1
            have q_al := (q6c inv3.al).1
            refine region_tail 9 (by kernel_rfl) (by kernel_rfl) ?_
            simp only [List.take_succ_cons, List.take_zero, List.drop_succ_cons, List.drop_zero]
            repeat still_step
            refine wpStill_nil ?_
            have inv4 := inv3.below (Below.refl _ _).drew
            replace k_c := bk (Below.refl _ _).drew k_c
            go_wp2_with fail
            refine (viewPaint (R := ⟨a, b, c, d⟩) h3 h4 h5 h6 HN.out hLq hin inv4.pix GK.out.len ⟨c1, c2, c3, c4⟩ hsok.2.2.2.1 gc k_c hcp).mono ?_
            rintro e Y2 ⟨rfl, hp2, hg2⟩
            have hp3 : IPix Y2 pb (painted ⟨a, b, c, d⟩ g.v g.bs x y (c1 % 256)) := by rw [hvq]; exact hp2
            have inv5 := Lib.hid ((inv4.set hg2 hp3).weak (ins := g.ins ∧ InsS g.v ⟨1, x, y, ⟨c1, c2, c3, c4⟩, ⟨p, r0, r, t⟩⟩) (fun h => h.1))
            clear hp2 hp3 hg2 inv3 inv4 q_s q_se q_al k_s k_c
            go_wp2
            go_roundw
            case rel => exact ⟨k + 1, q, true, vs, os, by omega, by go_num, rfl, by rw [ES.out]; exact inv5⟩
            case measure => simp [intOf]; omega
          by_cases e2 : kk = 2
          · subst e2
            have ES := Lib.hid (ET.out.trans (gstep2 ⟨a, b, c, d⟩ g _ rfl))
            have hmk : ∀ W : World, (Instr.makeSlice 27 (.int .i64 1) (.int .i64 1)).run Try.prog W = .ok (.slice (some ⟨W.heap.size, 0, none⟩) 1 1) (W.alloc (.cells #[.int .i64 0] 3)) := fun W => mk_ints 1 (by decide) W
            go_upto_region 16 with fail
            obtain ⟨Y1, gn, hY, hgn⟩ : ∃ Y1 g, Y1 = Y.alloc (.cells #[.int .i64 0] 3) ∧ g = Y.heap.size := ⟨_, _, rfl, rfl⟩
            rw [← hY, ← hgn]
            have bc : Below Y.heap.size Y Y1 := by rw [hY]; exact (Below.refl _ _).alloc (Nat.le_refl _) _
            have k_n : Y1.heap[gn]? = some (.cells #[.int .i64 0] 3 (0, 0)) := by rw [hY, hgn]; exact heap_alloc_new Y _
            have lgn : w1.heap.size + 2 ≤ gn := by rw [hgn]; exact inv2.lb
            have hvn : (Value.slice Vo os.length co).ownBlock ≠ some gn := by intro e; have := (inv2.off.lt _ e).2; omega
            have hR : In a b c d x y := hLq.inn hin
            obtain ⟨o, ho, hoN⟩ := place_lt HN.out hR
            have HO := Lib.hid ho
            have inv3 := inv2.below bc
            replace k_s := bk bc k_s
            have hgn2 : Y.heap.size ≤ gn := by omega
            have INV2 := Lib.hid inv2
            have BC := Lib.hid bc
            clear bc hY hgn inv2 q_s q_se q_al q_r hmk ho
            have q_s := (q11c k_s).1
            have q_al := (q6c inv3.al).1
            have q_r := (q4c inv3.rb).1
            have hR' := hR
            obtain ⟨i1, i2, i3, i4⟩ := hR'
            go_wp2_with fail
            refine (place_any a b c d (c - a) 1 x y (o : Int) (by omega) (by omega) (by omega) (by omega) (by omega) (by omega) (by decide) (by decide) (by rw [Int.mul_one]; exact HO.out) _).mono ?_
            rintro e Y2 ⟨rfl, bc⟩
            have inv4 := inv3.below bc
            replace k_n := bk bc k_n
            have bY2 : Below Y.heap.size Y Y2 := bst bc BC.out
            clear bc inv3 k_s q_s q_al q_r BC
            have q_al := (q6c inv4.al).1
            have e6 : IntKind.i64.wrap ((o : Int) + 1) = ((o + 1 : Nat) : Int) := by rw [show (o : Int) + 1 = ((o + 1 : Nat) : Int) by omega]; exact IntWalk.i64_in _ ⟨by omega, by omega⟩
            have s1 : o + 1 ≤ N := by omega
            have s2 : o ≤ o + 1 := by omega
            have s3 : (o : Int) ≤ ((o + 1 : Nat) : Int) := by omega
            have s4 : ((o + 1 : Nat) : Int) ≤ (N : Int) := by omega
            have s5 : (0 : Int) ≤ ((o + 1 : Nat) : Int) := by omega
            have s6 : ¬ N = o := by omega
            have s7 : (o : Int) + 1 ≤ (N : Int) := by omega
            have s8 : (o : Int) ≤ (o : Int) + 1 := by omega
            have s9 : (0 : Int) ≤ (o : Int) + 1 := by omega
            have s10 : ((o : Int) + 1).toNat = o + 1 := by omega
            have hpx := inv4.pix
            have hcp0 := run_copy_row (P := Try.prog) Y2 27 27 3 3 gn 0 1 1 ⟨pb, o, none⟩ 1 (N - o) #[.int .i64 0] 3 ((colN (g.bs.getD o 0)).map (Value.int .i64)) Try.underlying27 hI1 k_n rfl (pix_src hpx (by rw [GK.out.len]; exact s1)) (by first | decide | simp [colN]) (fun u hu => by obtain ⟨z, _, rfl⟩ := List.mem_map.1 hu; rfl)
            obtain ⟨Y3, eY3, hcp⟩ : ∃ Y3, Y3 = Y2.setRow gn ((#[.int .i64 0] : Array Value).toList.take 0 ++ ((colN (g.bs.getD o 0)).map (Value.int .i64)) ++ (#[.int .i64 0] : Array Value).toList.drop (0 + (((colN (g.bs.getD o 0)).map (Value.int .i64))).length)).toArray ∧ (Builtin.copy_ #[27, 27] 3 #[.slice (some ⟨gn, 0, none⟩) 1 1, .slice (some ⟨pb, o, none⟩) 1 (N - o)]).run Try.prog Y2 = .ok (goInt (((colN (g.bs.getD o 0)).map (Value.int .i64))).length) Y3 := ⟨_, rfl, hcp0⟩
            have bY3 : Below Y.heap.size Y Y3 := by rw [eY3]; exact below_setRow bY2 hgn2 _
            replace k_n : Y3.heap[gn]? = some (.cells ((colN (g.bs.getD o 0)).map (Value.int .i64)).toArray 3 (0, 0)) := by rw [eY3]; have := setRow_heap Y2 gn #[.int .i64 0] (((colN (g.bs.getD o 0)).map (Value.int .i64)).toArray) 3 (0, 0) k_n; simpa [colN] using this
            have EZ : seen ⟨a, b, c, d⟩ g.v g.bs x y = g.bs.getD o 0 := by rw [hvq, seen_in hin]; exact rdAt_in hR HO.out
            replace inv4 := INV2.out.below bY3
            have hownc := inv4.col
            have lbY := inv4.lb
            clear hcp0 eY3 bY3 bY2 hpx INV2
            go_wp2_with (first
              | (at_builtin; refine wpList_append_lies _ rfl _ _ 97 rfl (w1.heap.size + 2) 27 j0 (.slice none 0 0) 1 24 Try.underlying97 hj hy0 hy1 hy2 rfl (by decide) (.slice Vc g.cs.length cc) (g.cs.length) vs rfl (hownc.alloc _) ⟨Y3.heap.size, 0, none⟩ 1 1 [.slice (some ⟨gn, 0, none⟩) 1 1] rfl rfl ?h1ina ?h2ina (by decide) ?h3ina ?h4ina ?h5ina _ rfl ?_))
            (try case h1ina => (exact World.news_of_block (cs := #[.slice (some ⟨gn, 0, none⟩) 1 1]) (t := 27) (fr := (0, 0)) (heap_alloc_new Y3 _)))
            (try case h2ina => (first | (intro u hu; simp at hu; subst hu; rfl) | rfl | simp [Value.oneCell']))
            (try case h3ina => (unfold maxLen; omega))
            (try case h4ina => (omega))
            (try case h5ina => (have := lbY; simp; omega))
            intro gg cap Y5 hown' hgrow hat hlt'
            have inv5 := Lib.hid (((inv4.below ((Below.refl _ _).alloc (Nat.le_refl _) _)).addc (z := g.bs.getD o 0) (bka k_n) lgn hvn hgrow hown').weak (ins := g.ins ∧ InsS g.v ⟨2, x, y, ⟨c1, c2, c3, c4⟩, ⟨p, r0, r, t⟩⟩) (fun h => h.1))
            clear hown' hgrow hat hlt' inv4 hownc k_n
            go_wp2
            go_roundw
            case rel => exact ⟨k + 1, q, true, (vs ++ [.slice (some ⟨gn, 0, none⟩) 1 1]), os, by omega, by go_num, rfl, by rw [ES.out, EZ]; exact inv5⟩
            case measure => simp [intOf]; omega
          by_cases e3 : kk = 3
          · subst e3
            have ES := Lib.hid (ET.out.trans (gstep3 ⟨a, b, c, d⟩ g _ rfl))
            have hlq := hLq
            obtain ⟨l1, l2, l3, l4⟩ := hlq
            dsimp only at l1 l2 l3 l4
            have hin' := hin
            obtain ⟨i1, i2, i3, i4⟩ := hin'
            have hzI : I64 ((y - q.b) * (c - a) + (x - q.a)) := by
              have k1 : 0 ≤ (y - q.b) * (c - a) := Int.mul_nonneg (by omega) (by omega)
              have k2 : (y - q.b) * (c - a) ≤ 1000 * 4000 := Int.mul_le_mul (by omega) (by omega) (by omega) (by decide)
              unfold I64; omega
            go_wp2_with fail
            refine (place_any q.a q.b q.c q.d (c - a) 1 x y ((y - q.b) * (c - a) + (x - q.a)) (by omega) (by omega) (by omega) (by omega) (by omega) (by omega) (by decide) (by decide) (by rw [Int.mul_one]) _).mono ?_
            rintro e Y1 ⟨rfl, bc⟩
            obtain ⟨z, hz⟩ : ∃ z, z = (y - q.b) * (c - a) + (x - q.a) := ⟨_, rfl⟩
            rw [← hz] at hzI ⊢
            have HZ := Lib.hid (show z = offv ⟨a, b, c, d⟩ g.v ⟨3, x, y, ⟨c1, c2, c3, c4⟩, ⟨p, r0, r, t⟩⟩ by rw [hvq, hz]; rfl)
            clear hz
            have inv3 := inv2.below bc
            have hownc := inv3.off
            have INV3 := Lib.hid inv3
            have hZI := Lib.hid hzI
            obtain ⟨z1, z2⟩ := hzI
            clear bc inv2 q_s q_se q_al q_r k_s
            go_wp2_with (first
              | (at_builtin; (refine wpList_append_lies _ rfl _ _ 27 rfl (w1.heap.size + 2) 3 i0 (.int .i64 0) 1 8 Try.underlying27 hi hz0 hz1 hz2 rfl (by decide) (.slice Vo os.length co) (os.length) (ints os) rfl (hownc.alloc _) ⟨Y1.heap.size, 0, none⟩ 1 1 [.int .i64 z] rfl rfl ?h1inb ?h2inb (by decide) ?h3inb ?h4inb ?h5inb _ rfl ?_)))
            (try case h1inb => (exact World.news_of_block (cs := #[.int .i64 z]) (t := 3) (fr := (0, 0)) (heap_alloc_new Y1 _)))
            (try case h2inb => (first | (intro u hu; simp at hu; subst hu; rfl) | rfl | simp [Value.oneCell']))
            (try case h3inb => (unfold maxLen; omega))
            (try case h4inb => (omega))
            (try case h5inb => (have := inv3.lb; simp; omega))
            intro gg cap Y5 hown' hgrow hat hlt'
            have inv5 := Lib.hid ((INV3.out.below ((Below.refl _ _).alloc (Nat.le_refl _) _)).addo (o := offv ⟨a, b, c, d⟩ g.v ⟨3, x, y, ⟨c1, c2, c3, c4⟩, ⟨p, r0, r, t⟩⟩) (ins := g.ins ∧ InsS g.v ⟨3, x, y, ⟨c1, c2, c3, c4⟩, ⟨p, r0, r, t⟩⟩) hgrow hown' (by simpa using hat) hZI.out (fun h => ⟨h.1, HZ.out⟩))
            clear hown' hgrow hat hlt' inv3 hownc INV3
            go_wp2
            go_roundw
            case rel => exact ⟨k + 1, q, true, vs, (os ++ [z]), by omega, by go_num, rfl, by rw [ES.out]; exact inv5⟩
            case measure => simp [intOf]; omega
          by_cases e4 : kk = 4
          · subst e4
            have ES := Lib.hid (ET.out.trans (gstep4 ⟨a, b, c, d⟩ g _ rfl))
            cases hc0 : com q ⟨p, r0, r, t⟩ with
            | none =>
              have EV : g.v.bind (com · ⟨p, r0, r, t⟩) = none := by rw [hvq]; exact hc0
              go_wp2_with fail
              refine (common_none q ⟨p, r0, r, t⟩ hc0 _).mono ?_
              rintro e Y1 ⟨rfl, bc⟩
              have inv3 := inv2.below bc
              clear bc inv2 q_s q_se q_al q_r k_s
              have q_se := q4c inv3.se
              have inv5 := Lib.hid ((inv3.look (p := ⟨0, 0, 0, 0⟩) (sb' := false) (v := none) (.inr ⟨rfl, rfl⟩)).weak (ins := g.ins ∧ InsS g.v ⟨4, x, y, ⟨c1, c2, c3, c4⟩, ⟨p, r0, r, t⟩⟩) (fun h => h.1))
              clear inv3
              go_wp2
              go_roundw
              case rel => exact ⟨k + 1, ⟨0, 0, 0, 0⟩, false, vs, os, by omega, by go_num, rfl, by rw [ES.out, EV]; exact inv5⟩
              case measure => simp [intOf]; omega
            | some p1 =>
              have EV : g.v.bind (com · ⟨p, r0, r, t⟩) = some p1 := by rw [hvq]; exact hc0
              go_wp2_with fail
              refine (common_some q ⟨p, r0, r, t⟩ p1 hc0 _).mono ?_
              rintro e Y1 ⟨rfl, bc⟩
              have inv3 := inv2.below bc
              clear bc inv2 q_s q_se q_al q_r k_s
              have q_se := q4c inv3.se
              have inv5 := Lib.hid ((inv3.look (p := p1) (sb' := true) (v := some p1) (.inl ⟨rfl, rfl⟩)).weak (ins := g.ins ∧ InsS g.v ⟨4, x, y, ⟨c1, c2, c3, c4⟩, ⟨p, r0, r, t⟩⟩) (fun h => h.1))
              clear inv3
              go_wp2
              go_roundw
              case rel => exact ⟨k + 1, p1, true, vs, os, by omega, by go_num, rfl, by rw [ES.out, EV]; exact inv5⟩
              case measure => simp [intOf]; omega
          by_cases e5 : kk = 5
          · subst e5
            have ES := Lib.hid (ET.out.trans (gstep5 ⟨a, b, c, d⟩ g _ rfl))
            have inv5 := Lib.hid ((inv2.look (p := ⟨a, b, c, d⟩) (sb' := true) (v := some ⟨a, b, c, d⟩) (.inl ⟨rfl, rfl⟩)).weak (ins := g.ins ∧ InsS g.v ⟨5, x, y, ⟨c1, c2, c3, c4⟩, ⟨p, r0, r, t⟩⟩) (fun h => h.1))
            clear inv2
            go_wp2
            go_roundw
            case rel => exact ⟨k + 1, ⟨a, b, c, d⟩, true, vs, os, by omega, by go_num, rfl, by rw [ES.out]; exact inv5⟩
            case measure => simp [intOf]; omega
          have t1 : (kk == 1) = false := by simpa using e1
          have t2 : (kk == 2) = false := by simpa using e2
          have t3 : (kk == 3) = false := by simpa using e3
          have t4 : (kk == 4) = false := by simpa using e4
          have t5 : (kk == 5) = false := by simpa using e5
          have ES := Lib.hid (ET.out.trans (gstep0 ⟨a, b, c, d⟩ g _ e1 e2 e3 e4 e5))
          have inv5 := Lib.hid (inv2.weak (ins := g.ins ∧ InsS g.v ⟨kk, x, y, ⟨c1, c2, c3, c4⟩, ⟨p, r0, r, t⟩⟩) (fun h => h.1))
          clear inv2
          go_wp2
          go_roundw
          case rel => exact ⟨k + 1, q, true, vs, os, by omega, by go_num, rfl, by rw [ES.out]; exact inv5⟩
          case measure => simp [intOf]; omega
        · have hvis : ¬ Vis g.v x y := by rw [hvq]; exact fun h => hin (vis_some.1 h)
          have q_se := q4c inv1.se
          have q_s := (q11c k_s).1
          go_wp2_with fail
          refine (sHas_no q.a q.b q.c q.d x y hin _).mono ?_
          rintro e Y ⟨rfl, bc⟩
          have inv2 := inv1.below bc
          replace k_s := bk bc k_s
          clear inv1 bc q_se q_s
          have q_s := (q11c k_s).1
          have q_se := q4c inv2.se
          have q_al := (q6c inv2.al).1
          have q_r := (q4c inv2.rb).1
          by_cases e1 : kk = 1
          · subst e1
            have ES := Lib.hid (ET.out.trans (gstep1 ⟨a, b, c, d⟩ g _ rfl))
            have inv5 := Lib.hid (inv2.weak (ins := g.ins ∧ InsS g.v ⟨1, x, y, ⟨c1, c2, c3, c4⟩, ⟨p, r0, r, t⟩⟩) (fun h => h.1))
            clear inv2
            go_wp2
            go_roundw
            case rel => exact ⟨k + 1, q, true, vs, os, by omega, by go_num, rfl, by rw [ES.out, painted_out _ hvis]; exact inv5⟩
            case measure => simp [intOf]; omega
          by_cases e2 : kk = 2
          · subst e2
            have ES := Lib.hid (ET.out.trans (gstep2 ⟨a, b, c, d⟩ g _ rfl))
            have hmk : ∀ W : World, (Instr.makeSlice 27 (.int .i64 1) (.int .i64 1)).run Try.prog W = .ok (.slice (some ⟨W.heap.size, 0, none⟩) 1 1) (W.alloc (.cells #[.int .i64 0] 3)) := fun W => mk_ints 1 (by decide) W
            go_upto_region 16 with fail
            obtain ⟨Y1, gn, hY, hgn⟩ : ∃ Y1 g, Y1 = Y.alloc (.cells #[.int .i64 0] 3) ∧ g = Y.heap.size := ⟨_, _, rfl, rfl⟩
            rw [← hY, ← hgn]
            have bc : Below Y.heap.size Y Y1 := by rw [hY]; exact (Below.refl _ _).alloc (Nat.le_refl _) _
            have k_n : Y1.heap[gn]? = some (.cells #[.int .i64 0] 3 (0, 0)) := by rw [hY, hgn]; exact heap_alloc_new Y _
            have lgn : w1.heap.size + 2 ≤ gn := by rw [hgn]; exact inv2.lb
            have hvn : (Value.slice Vo os.length co).ownBlock ≠ some gn := by intro e; have := (inv2.off.lt _ e).2; omega
            have inv4 := inv2.below bc
            have EZ : seen ⟨a, b, c, d⟩ g.v g.bs x y = 0 := seen_out _ hvis
            have hownc := inv4.col
            have lbY := inv4.lb
            clear bc hY hgn inv2 q_s q_se q_al q_r hmk k_s
            go_wp2_with (first
              | (at_builtin; refine wpList_append_lies _ rfl _ _ 97 rfl (w1.heap.size + 2) 27 j0 (.slice none 0 0) 1 24 Try.underlying97 hj hy0 hy1 hy2 rfl (by decide) (.slice Vc g.cs.length cc) (g.cs.length) vs rfl (hownc.alloc _) ⟨Y1.heap.size, 0, none⟩ 1 1 [.slice (some ⟨gn, 0, none⟩) 1 1] rfl rfl ?h1outa ?h2outa (by decide) ?h3outa ?h4outa ?h5outa _ rfl ?_))
            (try case h1outa => (exact World.news_of_block (cs := #[.slice (some ⟨gn, 0, none⟩) 1 1]) (t := 27) (fr := (0, 0)) (heap_alloc_new Y1 _)))
            (try case h2outa => (first | (intro u hu; simp at hu; subst hu; rfl) | rfl | simp [Value.oneCell']))
            (try case h3outa => (unfold maxLen; omega))
            (try case h4outa => (omega))
            (try case h5outa => (have := lbY; simp; omega))
            intro gg cap Y5 hown' hgrow hat hlt'
            have inv5 := Lib.hid (((inv4.below ((Below.refl _ _).alloc (Nat.le_refl _) _)).addc (z := 0) (bka k_n) lgn hvn hgrow hown').weak (ins := g.ins ∧ InsS g.v ⟨2, x, y, ⟨c1, c2, c3, c4⟩, ⟨p, r0, r, t⟩⟩) (fun h => h.1))
            clear hown' hgrow hat hlt' inv4 hownc k_n
            go_wp2
            go_roundw
            case rel => exact ⟨k + 1, q, true, (vs ++ [.slice (some ⟨gn, 0, none⟩) 1 1]), os, by omega, by go_num, rfl, by rw [ES.out, EZ]; exact inv5⟩
            case measure => simp [intOf]; omega
          by_cases e3 : kk = 3
          · subst e3
            have ES := Lib.hid (ET.out.trans (gstep3 ⟨a, b, c, d⟩ g _ rfl))
            go_wp2_with fail
            refine (place_free q.a q.b q.c q.d (c - a) 1 x y _).mono ?_
            rintro e Y1 ⟨z, rfl, hzI, bc⟩
            have inv3 := inv2.below bc
            have hownc := inv3.off
            have INV3 := Lib.hid inv3
            have hZI := Lib.hid hzI
            obtain ⟨z1, z2⟩ := hzI
            clear bc inv2 q_s q_se q_al q_r k_s
            go_wp2_with (first
              | (at_builtin; (refine wpList_append_lies _ rfl _ _ 27 rfl (w1.heap.size + 2) 3 i0 (.int .i64 0) 1 8 Try.underlying27 hi hz0 hz1 hz2 rfl (by decide) (.slice Vo os.length co) (os.length) (ints os) rfl (hownc.alloc _) ⟨Y1.heap.size, 0, none⟩ 1 1 [.int .i64 z] rfl rfl ?h1outb ?h2outb (by decide) ?h3outb ?h4outb ?h5outb _ rfl ?_)))
            (try case h1outb => (exact World.news_of_block (cs := #[.int .i64 z]) (t := 3) (fr := (0, 0)) (heap_alloc_new Y1 _)))
            (try case h2outb => (first | (intro u hu; simp at hu; subst hu; rfl) | rfl | simp [Value.oneCell']))
            (try case h3outb => (unfold maxLen; omega))
            (try case h4outb => (omega))
            (try case h5outb => (have := inv3.lb; simp; omega))
            intro gg cap Y5 hown' hgrow hat hlt'
            have inv5 := Lib.hid ((INV3.out.below ((Below.refl _ _).alloc (Nat.le_refl _) _)).addo (o := offv ⟨a, b, c, d⟩ g.v ⟨3, x, y, ⟨c1, c2, c3, c4⟩, ⟨p, r0, r, t⟩⟩) (ins := g.ins ∧ InsS g.v ⟨3, x, y, ⟨c1, c2, c3, c4⟩, ⟨p, r0, r, t⟩⟩) hgrow hown' (by simpa using hat) hZI.out (fun h => absurd (h.2 (Or.inr (Or.inr rfl))) hvis))
            clear hown' hgrow hat hlt' inv3 hownc INV3
            go_wp2
            go_roundw
            case rel => exact ⟨k + 1, q, true, vs, (os ++ [z]), by omega, by go_num, rfl, by rw [ES.out]; exact inv5⟩
            case measure => simp [intOf]; omega
          by_cases e4 : kk = 4
          · subst e4
            have ES := Lib.hid (ET.out.trans (gstep4 ⟨a, b, c, d⟩ g _ rfl))
            cases hc0 : com q ⟨p, r0, r, t⟩ with
            | none =>
              have EV : g.v.bind (com · ⟨p, r0, r, t⟩) = none := by rw [hvq]; exact hc0
              go_wp2_with fail
              refine (common_none q ⟨p, r0, r, t⟩ hc0 _).mono ?_
              rintro e Y1 ⟨rfl, bc⟩
              have inv3 := inv2.below bc
              clear bc inv2 q_s q_se q_al q_r k_s
              have q_se := q4c inv3.se
              have inv5 := Lib.hid ((inv3.look (p := ⟨0, 0, 0, 0⟩) (sb' := false) (v := none) (.inr ⟨rfl, rfl⟩)).weak (ins := g.ins ∧ InsS g.v ⟨4, x, y, ⟨c1, c2, c3, c4⟩, ⟨p, r0, r, t⟩⟩) (fun h => h.1))
              clear inv3
              go_wp2
              go_roundw
              case rel => exact ⟨k + 1, ⟨0, 0, 0, 0⟩, false, vs, os, by omega, by go_num, rfl, by rw [ES.out, EV]; exact inv5⟩
              case measure => simp [intOf]; omega
            | some p1 =>
              have EV : g.v.bind (com · ⟨p, r0, r, t⟩) = some p1 := by rw [hvq]; exact hc0
              go_wp2_with fail
              refine (common_some q ⟨p, r0, r, t⟩ p1 hc0 _).mono ?_
              rintro e Y1 ⟨rfl, bc⟩
              have inv3 := inv2.below bc
              clear bc inv2 q_s q_se q_al q_r k_s
              have q_se := q4c inv3.se
              have inv5 := Lib.hid ((inv3.look (p := p1) (sb' := true) (v := some p1) (.inl ⟨rfl, rfl⟩)).weak (ins := g.ins ∧ InsS g.v ⟨4, x, y, ⟨c1, c2, c3, c4⟩, ⟨p, r0, r, t⟩⟩) (fun h => h.1))
              clear inv3
              go_wp2
              go_roundw
              case rel => exact ⟨k + 1, p1, true, vs, os, by omega, by go_num, rfl, by rw [ES.out, EV]; exact inv5⟩
              case measure => simp [intOf]; omega
          by_cases e5 : kk = 5
          · subst e5
            have ES := Lib.hid (ET.out.trans (gstep5 ⟨a, b, c, d⟩ g _ rfl))
            have inv5 := Lib.hid ((inv2.look (p := ⟨a, b, c, d⟩) (sb' := true) (v := some ⟨a, b, c, d⟩) (.inl ⟨rfl, rfl⟩)).weak (ins := g.ins ∧ InsS g.v ⟨5, x, y, ⟨c1, c2, c3, c4⟩, ⟨p, r0, r, t⟩⟩) (fun h => h.1))
            clear inv2
            go_wp2
            go_roundw
            case rel => exact ⟨k + 1, ⟨a, b, c, d⟩, true, vs, os, by omega, by go_num, rfl, by rw [ES.out]; exact inv5⟩
            case measure => simp [intOf]; omega
          have t1 : (kk == 1) = false := by simpa using e1
          have t2 : (kk == 2) = false := by simpa using e2
          have t3 : (kk == 3) = false := by simpa using e3
          have t4 : (kk == 4) = false := by simpa using e4
          have t5 : (kk == 5) = false := by simpa using e5
          have ES := Lib.hid (ET.out.trans (gstep0 ⟨a, b, c, d⟩ g _ e1 e2 e3 e4 e5))
          have inv5 := Lib.hid (inv2.weak (ins := g.ins ∧ InsS g.v ⟨kk, x, y, ⟨c1, c2, c3, c4⟩, ⟨p, r0, r, t⟩⟩) (fun h => h.1))
          clear inv2
          go_wp2
          go_roundw
          case rel => exact ⟨k + 1, q, true, vs, os, by omega, by go_num, rfl, by rw [ES.out]; exact inv5⟩
          case measure => simp [intOf]; omega
      · have hvis : ¬ Vis g.v x y := by rw [hvq]; exact not_vis_none
        obtain ⟨Y, inv2⟩ : ∃ Y, Y = W ∧ SInv w (w1.heap.size + 2) w.heap.size w1.heap.size (w1.heap.size + 1) (w.heap.size + 1) pb N ⟨a, b, c, d⟩ g q false (.slice Vc g.cs.length cc) (.slice Vo os.length co) vs os Y := ⟨W, rfl, inv1⟩
        obtain ⟨rfl, inv2⟩ := inv2
        clear inv1
        have q_s := (q11c k_s).1
        have q_se := q4c inv2.se
        have q_al := (q6c inv2.al).1
        have q_r := (q4c inv2.rb).1
        by_cases e1 : kk = 1
        · subst e1
          have ES := Lib.hid (ET.out.trans (gstep1 ⟨a, b, c, d⟩ g _ rfl))
          have inv5 := Lib.hid (inv2.weak (ins := g.ins ∧ InsS g.v ⟨1, x, y, ⟨c1, c2, c3, c4⟩, ⟨p, r0, r, t⟩⟩) (fun h => h.1))
          clear inv2
          go_wp2
          go_roundw
          case rel => exact ⟨k + 1, q, false, vs, os, by omega, by go_num, rfl, by rw [ES.out, painted_out _ hvis]; exact inv5⟩
          case measure => simp [intOf]; omega
        by_cases e2 : kk = 2
        · subst e2
          have ES := Lib.hid (ET.out.trans (gstep2 ⟨a, b, c, d⟩ g _ rfl))
          have hmk : ∀ W : World, (Instr.makeSlice 27 (.int .i64 1) (.int .i64 1)).run Try.prog W = .ok (.slice (some ⟨W.heap.size, 0, none⟩) 1 1) (W.alloc (.cells #[.int .i64 0] 3)) := fun W => mk_ints 1 (by decide) W
          go_upto_region 16 with fail
          obtain ⟨Y1, gn, hY, hgn⟩ : ∃ Y1 g, Y1 = Y.alloc (.cells #[.int .i64 0] 3) ∧ g = Y.heap.size := ⟨_, _, rfl, rfl⟩
          rw [← hY, ← hgn]
          have bc : Below Y.heap.size Y Y1 := by rw [hY]; exact (Below.refl _ _).alloc (Nat.le_refl _) _
          have k_n : Y1.heap[gn]? = some (.cells #[.int .i64 0] 3 (0, 0)) := by rw [hY, hgn]; exact heap_alloc_new Y _
          have lgn : w1.heap.size + 2 ≤ gn := by rw [hgn]; exact inv2.lb
          have hvn : (Value.slice Vo os.length co).ownBlock ≠ some gn := by intro e; have := (inv2.off.lt _ e).2; omega
          have inv4 := inv2.below bc
          have EZ : seen ⟨a, b, c, d⟩ g.v g.bs x y = 0 := seen_out _ hvis
          have hownc := inv4.col
          have lbY := inv4.lb
          clear bc hY hgn inv2 q_s q_se q_al q_r hmk k_s
          go_wp2_with (first
            | (at_builtin; refine wpList_append_lies _ rfl _ _ 97 rfl (w1.heap.size + 2) 27 j0 (.slice none 0 0) 1 24 Try.underlying97 hj hy0 hy1 hy2 rfl (by decide) (.slice Vc g.cs.length cc) (g.cs.length) vs rfl (hownc.alloc _) ⟨Y1.heap.size, 0, none⟩ 1 1 [.slice (some ⟨gn, 0, none⟩) 1 1] rfl rfl ?h1nonea ?h2nonea (by decide) ?h3nonea ?h4nonea ?h5nonea _ rfl ?_))
          (try case h1nonea => (exact World.news_of_block (cs := #[.slice (some ⟨gn, 0, none⟩) 1 1]) (t := 27) (fr := (0, 0)) (heap_alloc_new Y1 _)))
          (try case h2nonea => (first | (intro u hu; simp at hu; subst hu; rfl) | rfl | simp [Value.oneCell']))
          (try case h3nonea => (unfold maxLen; omega))
          (try case h4nonea => (omega))
          (try case h5nonea => (have := lbY; simp; omega))
          intro gg cap Y5 hown' hgrow hat hlt'
          have inv5 := Lib.hid (((inv4.below ((Below.refl _ _).alloc (Nat.le_refl _) _)).addc (z := 0) (bka k_n) lgn hvn hgrow hown').weak (ins := g.ins ∧ InsS g.v ⟨2, x, y, ⟨c1, c2, c3, c4⟩, ⟨p, r0, r, t⟩⟩) (fun h => h.1))
          clear hown' hgrow hat hlt' inv4 hownc k_n
          go_wp2
          go_roundw
          case rel => exact ⟨k + 1, q, false, (vs ++ [.slice (some ⟨gn, 0, none⟩) 1 1]), os, by omega, by go_num, rfl, by rw [ES.out, EZ]; exact inv5⟩
          case measure => simp [intOf]; omega
        by_cases e3 : kk = 3
        · subst e3
          have ES := Lib.hid (ET.out.trans (gstep3 ⟨a, b, c, d⟩ g _ rfl))
          go_wp2_with fail
          refine (place_free q.a q.b q.c q.d (c - a) 1 x y _).mono ?_
          rintro e Y1 ⟨z, rfl, hzI, bc⟩
          have inv3 := inv2.below bc
          have hownc := inv3.off
          have INV3 := Lib.hid inv3
          have hZI := Lib.hid hzI
          obtain ⟨z1, z2⟩ := hzI
          clear bc inv2 q_s q_se q_al q_r k_s
          go_wp2_with (first
            | (at_builtin; (refine wpList_append_lies _ rfl _ _ 27 rfl (w1.heap.size + 2) 3 i0 (.int .i64 0) 1 8 Try.underlying27 hi hz0 hz1 hz2 rfl (by decide) (.slice Vo os.length co) (os.length) (ints os) rfl (hownc.alloc _) ⟨Y1.heap.size, 0, none⟩ 1 1 [.int .i64 z] rfl rfl ?h1noneb ?h2noneb (by decide) ?h3noneb ?h4noneb ?h5noneb _ rfl ?_)))
          (try case h1noneb => (exact World.news_of_block (cs := #[.int .i64 z]) (t := 3) (fr := (0, 0)) (heap_alloc_new Y1 _)))
          (try case h2noneb => (first | (intro u hu; simp at hu; subst hu; rfl) | rfl | simp [Value.oneCell']))
          (try case h3noneb => (unfold maxLen; omega))
          (try case h4noneb => (omega))
          (try case h5noneb => (have := inv3.lb; simp; omega))
          intro gg cap Y5 hown' hgrow hat hlt'
          have inv5 := Lib.hid ((INV3.out.below ((Below.refl _ _).alloc (Nat.le_refl _) _)).addo (o := offv ⟨a, b, c, d⟩ g.v ⟨3, x, y, ⟨c1, c2, c3, c4⟩, ⟨p, r0, r, t⟩⟩) (ins := g.ins ∧ InsS g.v ⟨3, x, y, ⟨c1, c2, c3, c4⟩, ⟨p, r0, r, t⟩⟩) hgrow hown' (by simpa using hat) hZI.out (fun h => absurd (h.2 (Or.inr (Or.inr rfl))) hvis))
          clear hown' hgrow hat hlt' inv3 hownc INV3
          go_wp2
          go_roundw
          case rel => exact ⟨k + 1, q, false, vs, (os ++ [z]), by omega, by go_num, rfl, by rw [ES.out]; exact inv5⟩
          case measure => simp [intOf]; omega
        by_cases e4 : kk = 4
        · subst e4
          have ES := Lib.hid (ET.out.trans (gstep4 ⟨a, b, c, d⟩ g _ rfl))
          have inv5 := Lib.hid (inv2.weak (ins := g.ins ∧ InsS g.v ⟨4, x, y, ⟨c1, c2, c3, c4⟩, ⟨p, r0, r, t⟩⟩) (fun h => h.1))
          have EV : g.v.bind (com · ⟨p, r0, r, t⟩) = g.v := by rw [hvq]; rfl
          clear inv2
          go_wp2
          go_roundw
          case rel => exact ⟨k + 1, q, false, vs, os, by omega, by go_num, rfl, by rw [ES.out, EV]; exact inv5⟩
          case measure => simp [intOf]; omega
        by_cases e5 : kk = 5
        · subst e5
          have ES := Lib.hid (ET.out.trans (gstep5 ⟨a, b, c, d⟩ g _ rfl))
          have inv5 := Lib.hid ((inv2.look (p := ⟨a, b, c, d⟩) (sb' := true) (v := some ⟨a, b, c, d⟩) (.inl ⟨rfl, rfl⟩)).weak (ins := g.ins ∧ InsS g.v ⟨5, x, y, ⟨c1, c2, c3, c4⟩, ⟨p, r0, r, t⟩⟩) (fun h => h.1))
          clear inv2
          go_wp2
          go_roundw
          case rel => exact ⟨k + 1, ⟨a, b, c, d⟩, true, vs, os, by omega, by go_num, rfl, by rw [ES.out]; exact inv5⟩
          case measure => simp [intOf]; omega
        have t1 : (kk == 1) = false := by simpa using e1
        have t2 : (kk == 2) = false := by simpa using e2
        have t3 : (kk == 3) = false := by simpa using e3
        have t4 : (kk == 4) = false := by simpa using e4
        have t5 : (kk == 5) = false := by simpa using e5
        have ES := Lib.hid (ET.out.trans (gstep0 ⟨a, b, c, d⟩ g _ e1 e2 e3 e4 e5))
        have inv5 := Lib.hid (inv2.weak (ins := g.ins ∧ InsS g.v ⟨kk, x, y, ⟨c1, c2, c3, c4⟩, ⟨p, r0, r, t⟩⟩) (fun h => h.1))
        clear inv2
        go_wp2
        go_roundw
        case rel => exact ⟨k + 1, q, false, vs, os, by omega, by go_num, rfl, by rw [ES.out]; exact inv5⟩
        case measure => simp [intOf]; omega
    · obtain rfl : k = m := by omega
      have hts : ss.take k = ss := List.take_of_length_le (by rw [HS.out.1]; exact Nat.le_refl _)
      rw [hts] at HI GK hlen
      generalize hgE : grun ⟨a, b, c, d⟩ (gini ⟨a, b, c, d⟩ (byt N zs)) ss = g at HI GK hlen
      have HG := Lib.hid hgE
      clear hgE
      have hos : os.length ≤ k := by have := hlen.2; have := HI.out.olen; have := HS.out.1; simp only [gini, List.length_nil] at *; omega
      obtain ⟨Vc, cc, rfl⟩ := own_slice HI.out.col
      obtain ⟨Vo, co, rfl⟩ := own_slice HI.out.off
      clear hlen hcl hts
      have q_al := (q6c HI.out.al).1
      have q_z := q6c HI.out.res
      have nza := HI.out.nza
      go_wp2_with fail
      refine region_tail 5 (by kernel_rfl) (by kernel_rfl) ?_
      simp only [List.take_succ_cons, List.take_zero, List.drop_succ_cons, List.drop_zero]
      repeat still_step
      refine wpStill_nil ?_
      go_wp2
      refine bodyPost_ret (v := .tuple #[.slice Vc g.cs.length cc, .slice Vo os.length co, .agg #[.int .i64 a, .int .i64 b, .int .i64 c, .int .i64 d, .int .i64 (c - a), .slice (some ⟨pb, 0, none⟩) N N]]) (by simp [results, Try.results62, go_sem, q_z]) rfl ?_
      rw [HG.out]
      have inv := HI.out
      have lz : w.heap.size + 1 < w1.heap.size + 2 := by omega
      have lzz : w.heap.size ≤ w.heap.size + 1 := Nat.le_succ _
      obtain ⟨Z3, eZ⟩ : ∃ Z3, Z3 = ((((((wr.setCell ⟨w.heap.size + 1, 0, none⟩ (.int .i64 a)).setCell ⟨w.heap.size + 1, 1, none⟩ (.int .i64 b)).setCell ⟨w.heap.size + 1, 2, none⟩ (.int .i64 c)).setCell ⟨w.heap.size + 1, 3, none⟩ (.int .i64 d)).setCell ⟨w.heap.size + 1, 4, none⟩ (.int .i64 (c - a))).setCell ⟨w.heap.size + 1, 5, none⟩ (.slice (some ⟨pb, 0, none⟩) N N)) := ⟨_, rfl⟩
      rw [← eZ]
      have bd : Below Z3.heap.size Z3 Z3.drew := (Below.refl _ _).drew
      have p1 : Z3.ownsRow (w1.heap.size + 2) 27 1 (.slice Vc g.cs.length cc) g.cs.length vs := by rw [eZ]; exact own_set6 inv.col lz
      have p2 : Z3.ownsRow (w1.heap.size + 2) 3 1 (.slice Vo os.length co) os.length (ints os) := by rw [eZ]; exact own_set6 inv.off lz
      have p3 : ∀ {b o}, ¬ b = w.heap.size + 1 → wr.heap[b]? = some o → Z3.heap[b]? = some o := fun hn k => by rw [eZ]; exact bks hn (bks hn (bks hn (bks hn (bks hn (bks hn k)))))
      have p4 : Below w.heap.size w Z3 := by rw [eZ]; exact bss lzz (bss lzz (bss lzz (bss lzz (bss lzz (bss lzz inv.bel)))))
      have o1 := own_below p1 bd
      have o2 := own_below p2 bd
      have o3 : ∀ {b o}, ¬ b = w.heap.size + 1 → wr.heap[b]? = some o → Z3.drew.heap[b]? = some o := fun hn k => bk bd (p3 hn k)
      have o4 : Below w.heap.size w Z3.drew := p4.drew
      have o5 : ColRow Z3.drew (w1.heap.size + 2) (.slice Vo os.length co) vs g.cs := inv.row.keep (fun g o kk hb hv => ⟨(o3 (by omega) kk).trans kk.symm, hv⟩)
      have o6 : IPix Z3.drew pb g.bs := ⟨o3 (by omega) inv.pix.1, inv.pix.2⟩
      clear eZ bd p1 p2 p3 p4 o3
      obtain ⟨A2', c2', e2, rd2, lo2⟩ := Rd.of_own o2 (by omega) (fun z hz => inv.oI z hz)
      simp only [Value.slice.injEq, true_and] at e2
      obtain ⟨rfl, rfl⟩ := e2
      exact ⟨w1.heap.size + 2, Vc, cc, vs, Vo, co, os, pb, rfl, o1, o5, rd2, inv.olen, inv.oin, o6, fun b o h => by have := lo2 b o h; omega, inv.lp, by omega, o4⟩

end Go.Proofs.Ytpijljokcoocpaa

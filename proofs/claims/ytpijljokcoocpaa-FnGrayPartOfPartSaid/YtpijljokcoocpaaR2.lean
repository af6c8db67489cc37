/-
  Scripts on gray images: what a script does, and reads, writes and parts through what is visible. No condition.
-/
import Derived.Test.YtpijljokcoocpaaR1
namespace Go.Proofs.Ytpijljokcoocpaa
open Go.ChangeShapes Go.WideShapes Go.ChangeAt Go.RowKit
set_option linter.unusedVariables false
set_option linter.unusedSimpArgs false

/-- What a script has done: what is visible, the bytes, the grays that were read, the offsets, and whether all steps were at visible points. -/
structure GS where
  v : Option Q4
  bs : List Int
  cs : List Int
  os : List Int
  ins : Prop
/-- The offset of a point, in what is visible. -/
def offv (R : Q4) (v : Option Q4) (s : Stp) : Int := match v with
  | some q => (s.y - q.b) * (R.c - R.a) + (s.x - q.a)
  | none => 0
/-- The gray at a point, 0 where it is not visible. -/
noncomputable def seen (R : Q4) (v : Option Q4) (bs : List Int) (x y : Int) : Int := open Classical in if Vis v x y then rdAt bs R.a R.b R.c R.d x y else 0
noncomputable def painted (R : Q4) (v : Option Q4) (bs : List Int) (x y z : Int) : List Int := open Classical in if Vis v x y then wrAt bs R.a R.b R.c R.d x y z else bs
/-- A step that reads, writes or asks for an offset does so at a visible point. -/
def InsS (v : Option Q4) (s : Stp) : Prop := s.k = 1 ∨ s.k = 2 ∨ s.k = 3 → Vis v s.x s.y
noncomputable def gstep (R : Q4) (g : GS) (s : Stp) : GS where
  v := see R g.v s
  bs := if s.k = 1 then painted R g.v g.bs s.x s.y (s.c.a % 256) else g.bs
  cs := if s.k = 2 then g.cs ++ [seen R g.v g.bs s.x s.y] else g.cs
  os := if s.k = 3 then g.os ++ [offv R g.v s] else g.os
  ins := g.ins ∧ InsS g.v s
noncomputable def grun (R : Q4) (g : GS) (ss : List Stp) : GS := ss.foldl (gstep R) g
theorem grun_snoc (R : Q4) (g : GS) (ss : List Stp) (s : Stp) : grun R g (ss ++ [s]) = gstep R (grun R g ss) s := by simp [grun]
/-- The beginning. -/
def gini (R : Q4) (bs : List Int) : GS := ⟨some R, bs, [], [], True⟩

/-- What is visible lies in the whole. -/
def ViewOK (R : Q4) (v : Option Q4) : Prop := ∀ q, v = some q → Lies R q ∧ (q = R ∨ (q.a < q.c ∧ q.b < q.d))
theorem ViewOK.see {R : Q4} {v : Option Q4} {s : Stp} (h : ViewOK R v) : ViewOK R (see R v s) := by
  intro q hq
  unfold Go.Proofs.Ytpijljokcoocpaa.see at hq
  split at hq
  · cases v with
    | none => cases hq
    | some q0 =>
      obtain ⟨_, h1, h2, h3⟩ := com_some hq
      exact ⟨(h q0 rfl).1.trans h3, .inr ⟨h1, h2⟩⟩
  · split at hq
    · injection hq with hq
      subst hq
      exact ⟨Lies.refl _, .inl rfl⟩
    · exact h q hq
theorem painted_length (R : Q4) (v : Option Q4) (bs : List Int) (x y z : Int) : (painted R v bs x y z).length = bs.length := by
  unfold painted; split
  · exact wrAt_length _ _ _ _ _ _ _ _
  · rfl
theorem painted_ok {R : Q4} {v : Option Q4} {bs : List Int} {x y z : Int} (h : ∀ u ∈ bs, 0 ≤ u ∧ u ≤ 255) : ∀ u ∈ painted R v bs x y (z % 256), 0 ≤ u ∧ u ≤ 255 := by
  unfold painted; split
  · exact wrAt_ok h (by omega) (by omega)
  · exact h
theorem seen_byte {R : Q4} {v : Option Q4} {bs : List Int} {x y : Int} (h : ∀ u ∈ bs, 0 ≤ u ∧ u ≤ 255) : 0 ≤ seen R v bs x y ∧ seen R v bs x y ≤ 255 := by
  unfold seen; split
  · exact rdAt_byte h
  · omega
/-- What holds of every state of a script. -/
structure GOK (R : Q4) (N : Nat) (g : GS) : Prop where
  view : ViewOK R g.v
  len : g.bs.length = N
  byte : ∀ u ∈ g.bs, 0 ≤ u ∧ u ≤ 255
  cols : ∀ u ∈ g.cs, 0 ≤ u ∧ u ≤ 255
theorem GOK.step {R : Q4} {N : Nat} {g : GS} {s : Stp} (h : GOK R N g) : GOK R N (gstep R g s) := by
  refine ⟨h.view.see, ?_, ?_, ?_⟩
  · show (if s.k = 1 then _ else _ : List Int).length = N
    split
    · rw [painted_length]; exact h.len
    · exact h.len
  · show ∀ u ∈ (if s.k = 1 then _ else _ : List Int), _
    split
    · exact painted_ok h.byte
    · exact h.byte
  · show ∀ u ∈ (if s.k = 2 then _ else _ : List Int), _
    split
    · intro u hu
      rcases List.mem_append.1 hu with hu | hu
      · exact h.cols u hu
      · rw [List.mem_singleton.1 hu]; exact seen_byte h.byte
    · exact h.cols
theorem GOK.run {R : Q4} {N : Nat} {g : GS} (h : GOK R N g) (ss : List Stp) : GOK R N (grun R g ss) := by
  induction ss generalizing g with
  | nil => exact h
  | cons s ss ih => exact ih h.step
theorem gini_ok (R : Q4) (N : Nat) (zs : List Int) : GOK R N (gini R (byt N zs)) :=
  ⟨fun q hq => by injection hq with hq; subst hq; exact ⟨Lies.refl _, .inl rfl⟩, byt_length _ _, byt_ok _ _, fun u hu => by cases hu⟩

/-- The image that is held: what is visible of the bytes in block gb. -/
def MView (w : World) (gm gb N : Nat) (R : Q4) (v : Option Q4) : Prop :=
  (v = none ∧ Nil w gm) ∨ ∃ q off, v = some q ∧ (q.b - R.b) * (R.c - R.a) + (q.a - R.a) = ((off : Nat) : Int) ∧ off ≤ N ∧ Img w gm gb off (N - off) (R.c - R.a) q.a q.b q.c q.d
theorem MView.below {w w' : World} {gm gb N : Nat} {R : Q4} {v : Option Q4} (h : MView w gm gb N R v) (bc : Below w.heap.size w w') : MView w' gm gb N R v := by
  rcases h with ⟨h1, h2⟩ | ⟨q, off, h1, h2, h3, h4⟩
  · exact .inl ⟨h1, bk bc h2⟩
  · exact .inr ⟨q, off, h1, h2, h3, bk bc h4⟩
theorem MView.grown {w w' : World} {gm gb N : Nat} {R : Q4} {v : Option Q4} {row : Option Nat} (h : MView w gm gb N R v) (hg : w.grownBy w' row) (hne : ∀ cs, w.heap[gm]? = some (.cells cs 76 (0, 0)) → some gm ≠ row) : MView w' gm gb N R v := by
  rcases h with ⟨h1, h2⟩ | ⟨q, off, h1, h2, h3, h4⟩
  · exact .inl ⟨h1, bkg hg (hne _ h2) h2⟩
  · exact .inr ⟨q, off, h1, h2, h3, bkg hg (hne _ h4) h4⟩
theorem Nil.cells {w : World} {gm : Nat} (h : Nil w gm) : w.cell? ⟨gm, 2, none⟩ = some (.int .i64 0) ∧ w.cell? ⟨gm, 3, none⟩ = some (.int .i64 0) ∧ w.cell? ⟨gm, 4, none⟩ = some (.int .i64 0) ∧ w.cell? ⟨gm, 5, none⟩ = some (.int .i64 0) ∧ w.cell? ⟨gm, 1, none⟩ = some (.int .i64 0) := by
  have := fun i => cell_of_row w gm i _ _ (0, 0) h
  exact ⟨this 2, this 3, this 4, this 5, this 1⟩
theorem not_vis_none {x y : Int} : ¬ Vis none x y := fun ⟨q, h, _⟩ => by cases h
theorem vis_some {q : Q4} {x y : Int} : Vis (some q) x y ↔ In q.a q.b q.c q.d x y := ⟨fun ⟨q', h, k⟩ => by injection h with h; subst h; exact k, fun h => ⟨q, rfl, h⟩⟩

/-- The place of a visible point, seen from what is held. -/
theorem place_view {R q : Q4} {N off : Nat} {x y : Int} (hN : (R.c - R.a) * (R.d - R.b) = N) (hl : Lies R q) (hin : In q.a q.b q.c q.d x y) (ho : (q.b - R.b) * (R.c - R.a) + (q.a - R.a) = (off : Int)) :
    ∃ o : Nat, (y - q.b) * (R.c - R.a) + (x - q.a) = (o : Int) ∧ off + o < N ∧ (y - R.b) * (R.c - R.a) + (x - R.a) = ((off + o : Nat) : Int) := by
  obtain ⟨p, hp, hpN⟩ := place_lt hN (hl.inn hin)
  obtain ⟨i1, i2, i3, i4⟩ := hin
  obtain ⟨l1, l2, l3, l4⟩ := hl
  have k1 : 0 ≤ (y - q.b) * (R.c - R.a) := Int.mul_nonneg (by omega) (by omega)
  have e : (y - R.b) * (R.c - R.a) = (y - q.b) * (R.c - R.a) + (q.b - R.b) * (R.c - R.a) := by rw [← Int.add_mul]; congr 1; omega
  refine ⟨((y - q.b) * (R.c - R.a) + (x - q.a)).toNat, by omega, by omega, by omega⟩

section
variable {R : Q4} {N : Nat} {gm gb : Nat} {v : Option Q4} {bs : List Int} {w : World}
theorem viewAt (h3 : 0 ≤ R.c - R.a) (h4 : R.c - R.a ≤ 1000) (h5 : 0 ≤ R.d - R.b) (h6 : R.d - R.b ≤ 1000) (hN : (R.c - R.a) * (R.d - R.b) = N) (hv : ViewOK R v) (hm : MView w gm gb N R v) (hp : Pix w gb bs) (hl : bs.length = N) (x y : Int) :
    Calls Try.prog 52 #[.pointer (some ⟨gm, 0, none⟩), .int .i64 x, .int .i64 y] w fun e w' => e = .returned (.agg #[.int .u8 (seen R v bs x y)]) ∧ Below w.heap.size w w' := by
  have kN := area_le h3 h4 h5 h6 hN
  rcases hm with ⟨rfl, hn⟩ | ⟨q, off, rfl, ho, hoN, hi⟩
  · obtain ⟨r2, r3, r4, r5, _⟩ := hn.cells
    have e : seen R none bs x y = 0 := by unfold seen; rw [if_neg not_vis_none]
    rw [e]
    exact grayAt_out gm x y 0 0 0 0 w (lt_of_block hn) r2 r3 r4 r5 (fun h => by unfold In at h; omega)
  · obtain ⟨hL, hE⟩ := hv q rfl
    by_cases hin : In q.a q.b q.c q.d x y
    · obtain ⟨o, h1, h2, h3'⟩ := place_view hN hL hin ho
      have e : seen R (some q) bs x y = bs.getD (off + o) 0 := by unfold seen; rw [if_pos (vis_some.2 hin), rdAt_in (hL.inn hin) h3']
      rw [e]
      obtain ⟨l1, l2, l3, l4⟩ := hL
      exact grayAt_in gm gb off o (N - off) x y (R.c - R.a) q.a q.b q.c q.d bs w hi hp hin (by omega) (by omega) h3 (by omega) h1 (by omega) (by omega) (by omega)
    · have e : seen R (some q) bs x y = 0 := by unfold seen; rw [if_neg (fun h => hin (vis_some.1 h))]
      rw [e]
      obtain ⟨_, _, r2, r3, r4, r5⟩ := hi.cells
      exact grayAt_out gm x y q.a q.b q.c q.d w hi.lt r2 r3 r4 r5 hin
theorem viewSet (h3 : 0 ≤ R.c - R.a) (h4 : R.c - R.a ≤ 1000) (h5 : 0 ≤ R.d - R.b) (h6 : R.d - R.b ≤ 1000) (hN : (R.c - R.a) * (R.d - R.b) = N) (hv : ViewOK R v) (hm : MView w gm gb N R v) (hp : Pix w gb bs) (hl : bs.length = N) (x y z : Int) :
    Calls Try.prog 57 #[.pointer (some ⟨gm, 0, none⟩), .int .i64 x, .int .i64 y, .agg #[.int .u8 (z % 256)]] w fun e w' => e = .returned (.tuple #[]) ∧ Pix w' gb (painted R v bs x y (z % 256)) ∧ w.grownBy w' (some gb) := by
  have kN := area_le h3 h4 h5 h6 hN
  have out : ∀ {w' : World}, Below w.heap.size w w' → w.grownBy w' (some gb) := fun hb => ⟨hb.os, hb.tape, hb.output, hb.size, fun i hi _ => hb.block i hi⟩
  rcases hm with ⟨rfl, hn⟩ | ⟨q, off, rfl, ho, hoN, hi⟩
  · obtain ⟨r2, r3, r4, r5, _⟩ := hn.cells
    have e : painted R none bs x y (z % 256) = bs := by unfold painted; rw [if_neg not_vis_none]
    rw [e]
    exact (setGray_out gm x y 0 0 0 0 _ w (lt_of_block hn) r2 r3 r4 r5 (fun h => by unfold In at h; omega)).mono fun _ _ ⟨h1, h2⟩ => ⟨h1, hp.below h2, out h2⟩
  · obtain ⟨hL, hE⟩ := hv q rfl
    by_cases hin : In q.a q.b q.c q.d x y
    · obtain ⟨o, h1, h2, h3'⟩ := place_view hN hL hin ho
      have e : painted R (some q) bs x y (z % 256) = bs.set (off + o) (z % 256) := by unfold painted; rw [if_pos (vis_some.2 hin), wrAt_in (hL.inn hin) h3']
      rw [e]
      obtain ⟨l1, l2, l3, l4⟩ := hL
      exact setGray_in gm gb off o (N - off) x y (R.c - R.a) q.a q.b q.c q.d (z % 256) bs w hi hp hin (by omega) (by omega) (by omega) (by omega) h3 (by omega) h1 (by omega) (by omega) (by omega)
    · have e : painted R (some q) bs x y (z % 256) = bs := by unfold painted; rw [if_neg (fun h => hin (vis_some.1 h))]
      rw [e]
      obtain ⟨_, _, r2, r3, r4, r5⟩ := hi.cells
      exact (setGray_out gm x y q.a q.b q.c q.d _ w hi.lt r2 r3 r4 r5 hin).mono fun _ _ ⟨h1, h2⟩ => ⟨h1, hp.below h2, out h2⟩
theorem viewOff (h3 : 0 ≤ R.c - R.a) (h4 : R.c - R.a ≤ 1000) (h5 : 0 ≤ R.d - R.b) (h6 : R.d - R.b ≤ 1000) (hN : (R.c - R.a) * (R.d - R.b) = N) (hv : ViewOK R v) (hm : MView w gm gb N R v) (s : Stp) :
    Calls Try.prog 55 #[.pointer (some ⟨gm, 0, none⟩), .int .i64 s.x, .int .i64 s.y] w fun e w' => ∃ i : Int, e = .returned (.int .i64 i) ∧ I64 i ∧ (Vis v s.x s.y → i = offv R v s) ∧ Below w.heap.size w w' := by
  rcases hm with ⟨rfl, hn⟩ | ⟨q, off, rfl, ho, hoN, hi⟩
  · obtain ⟨r2, r3, r4, r5, r1⟩ := hn.cells
    exact (pixoff_any gm s.x s.y 0 0 0 w r1 r2 r3).mono fun _ _ ⟨i, h1, h2, k, h3⟩ => ⟨i, h2, h1, fun h => absurd h not_vis_none, by rw [h3]; exact below_drewN (Below.refl _ _) k⟩
  · obtain ⟨hL, hE⟩ := hv q rfl
    obtain ⟨_, r1, r2, r3, r4, r5⟩ := hi.cells
    by_cases hin : In q.a q.b q.c q.d s.x s.y
    · obtain ⟨o, h1, h2, h3'⟩ := place_view hN hL hin ho
      have kN := area_le h3 h4 h5 h6 hN
      obtain ⟨l1, l2, l3, l4⟩ := hL
      obtain ⟨i1, i2, i3, i4⟩ := hin
      exact (pixoff_in gm o s.x s.y (R.c - R.a) q.a q.b w r1 r2 r3 (by omega) (by omega) (by omega) (by omega) h3 (by omega) h1).mono fun _ _ ⟨h1', k, h2'⟩ => ⟨o, h1', by unfold I64; omega, fun _ => h1.symm, by rw [h2']; exact below_drewN (Below.refl _ _) k⟩
    · exact (pixoff_any gm s.x s.y (R.c - R.a) q.a q.b w r1 r2 r3).mono fun _ _ ⟨i, h1, h2, k, h3⟩ => ⟨i, h2, h1, fun h => absurd (vis_some.1 h) hin, by rw [h3]; exact below_drewN (Below.refl _ _) k⟩
theorem viewSub (h3 : 0 ≤ R.c - R.a) (h4 : R.c - R.a ≤ 1000) (h5 : 0 ≤ R.d - R.b) (h6 : R.d - R.b ≤ 1000) (hN : (R.c - R.a) * (R.d - R.b) = N) (hv : ViewOK R v) (hm : MView w gm gb N R v) (r : Q4) :
    Calls Try.prog 60 #[.pointer (some ⟨gm, 0, none⟩), .agg #[.int .i64 r.a, .int .i64 r.b, .int .i64 r.c, .int .i64 r.d]] w fun e w' => ∃ g, e = .returned (.iface 66 (.pointer (some ⟨g, 0, none⟩))) ∧ MView w' g gb N R (v.bind (com · r)) ∧ Below w.heap.size w w' := by
  have kN := area_le h3 h4 h5 h6 hN
  rcases hm with ⟨rfl, hn⟩ | ⟨q, off, rfl, ho, hoN, hi⟩
  · obtain ⟨r2, r3, r4, r5, _⟩ := hn.cells
    refine (sub_none gm r.a r.b r.c r.d 0 0 0 0 _ _ _ _ w (lt_of_block hn) r2 r3 r4 r5 (gmax_gr _ _) (gmax_gr _ _) (lmin_ls _ _) (lmin_ls _ _) ?_).mono fun _ _ ⟨g, h1, _, h2, h3⟩ => ⟨g, h1, .inl ⟨rfl, h2⟩, h3⟩
    left
    unfold lmin gmax
    split <;> split <;> omega
  · obtain ⟨hL, hE⟩ := hv q rfl
    show Calls _ _ _ _ fun e w' => ∃ g, e = _ ∧ MView w' g gb N R (com q r) ∧ Below w.heap.size w w'
    cases hc : com q r with
    | none =>
      obtain ⟨_, _, r2, r3, r4, r5⟩ := hi.cells
      exact (sub_none gm r.a r.b r.c r.d q.a q.b q.c q.d _ _ _ _ w hi.lt r2 r3 r4 r5 (gmax_gr _ _) (gmax_gr _ _) (lmin_ls _ _) (lmin_ls _ _) (com_none hc)).mono fun _ _ ⟨g, h1, _, h2, h3⟩ => ⟨g, h1, .inl ⟨rfl, h2⟩, h3⟩
    | some q' =>
      obtain ⟨e, c1, c2, c3⟩ := com_some hc
      have hin : In q.a q.b q.c q.d q'.a q'.b := by obtain ⟨m1, m2, m3, m4⟩ := c3; unfold In; omega
      obtain ⟨o, h1, h2, h3'⟩ := place_view hN hL hin ho
      have hL' := hL
      obtain ⟨l1, l2, l3, l4⟩ := hL'
      have := sub_some gm gb off (N - off) o r.a r.b r.c r.d (R.c - R.a) q.a q.b q.c q.d q'.a q'.b q'.c q'.d w hi (by rw [e]; exact gmax_gr _ _) (by rw [e]; exact gmax_gr _ _) (by rw [e]; exact lmin_ls _ _) (by rw [e]; exact lmin_ls _ _) c1 c2 (by omega) (by omega) h3 (by omega) h1 (by omega) (by omega)
      refine this.mono fun _ _ ⟨g, k1, _, k2, k3⟩ => ⟨g, k1, .inr ⟨q', off + o, rfl, h3', by omega, ?_⟩, k3⟩
      rw [show N - (off + o) = N - off - o by omega]
      exact k2
end
end Go.Proofs.Ytpijljokcoocpaa

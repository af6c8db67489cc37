/-
  Contract: a script on a gray image, by the program. No condition.
-/
import Derived.Test.YtpijljokcoocpaaR2
namespace Go.Proofs.Ytpijljokcoocpaa
open Go.ChangeShapes Go.WideShapes Go.ChangeAt Go.RowKit
set_option linter.unusedVariables false
set_option linter.unusedSimpArgs false

/-- The cells of a list of numbers. -/
abbrev ints (l : List Int) : List Value := l.map (Value.int .i64)

theorem own_far {X Y : World} {base e size n gb : Nat} {v : Value} {xs : List Value} (h : X.ownsRow base e size v n xs) (hg : X.grownBy Y (some gb)) (hb : gb < base) : Y.ownsRow base e size v n xs := by
  refine ⟨h.1, ?_⟩
  rcases h.2 with h | ⟨g, cap, cur, hv, hbg, hgg, h4⟩
  · exact Or.inl h
  · exact Or.inr ⟨g, cap, cur, hv, hbg, (hg.block g (Array.getElem?_eq_some_iff.1 hgg).1 (by intro e; injection e with e; omega)).trans hgg, h4⟩
theorem own_other {X Y : World} {base e size n : Nat} {v : Value} {xs : List Value} {row : Option Nat} (h : X.ownsRow base e size v n xs) (hg : X.grownBy Y row) (hne : ∀ j, v.ownBlock = some j → row ≠ some j) : Y.ownsRow base e size v n xs := by
  refine ⟨h.1, ?_⟩
  rcases h.2 with h | ⟨g, cap, cur, hv, hbg, hgg, h4⟩
  · exact Or.inl h
  · refine Or.inr ⟨g, cap, cur, hv, hbg, (hg.block g (Array.getElem?_eq_some_iff.1 hgg).1 ?_).trans hgg, h4⟩
    intro e
    exact hne g (by rw [hv]; rfl) e.symm

/-- What the world holds in the midst of a script. -/
structure GInv (w : World) (base gp gb gm N : Nat) (R : Q4) (g : GS) (vc vo : Value) (os : List Int) (X : World) : Prop where
  bel : Below w.heap.size w X
  res : X.heap[w.heap.size + 1]? = some (.cells #[.int .i64 0, .int .i64 0, .int .i64 0, .int .i64 0, .int .i64 0, .slice none 0 0] 29 (0, 0))
  img : Img X gp gb 0 N (R.c - R.a) R.a R.b R.c R.d
  pix : Pix X gb g.bs
  view : MView X gm gb N R g.v
  col : X.ownsRow base 3 1 vc g.cs.length (ints g.cs)
  off : X.ownsRow base 3 1 vo os.length (ints os)
  ne : ∀ j, vc.ownBlock = some j → vo.ownBlock ≠ some j
  lb : base ≤ X.heap.size
  lg : gb < base
  lw : w.heap.size + 2 ≤ gb
  olen : os.length = g.os.length
  oin : g.ins → os = g.os
  oI : ∀ u ∈ os, I64 u

section
variable {w X Y : World} {base gp gb gm N : Nat} {R : Q4} {g : GS} {vc vo : Value} {os : List Int}
theorem GInv.below (h : GInv w base gp gb gm N R g vc vo os X) (bc : Below X.heap.size X Y) : GInv w base gp gb gm N R g vc vo os Y :=
  ⟨bst bc h.bel, bk bc h.res, bk bc h.img, h.pix.below bc, h.view.below bc, own_below h.col bc, own_below h.off bc, h.ne, Nat.le_trans h.lb bc.size, h.lg, h.lw, h.olen, h.oin, h.oI⟩
theorem GInv.set (h : GInv w base gp gb gm N R g vc vo os X) (hg : X.grownBy Y (some gb)) {bs : List Int} (hp : Pix Y gb bs) : GInv w base gp gb gm N R { g with bs := bs } vc vo os Y := by
  have hne : ∀ {b cs t fr}, X.heap[b]? = some (.cells cs t fr) → t ≠ 5 → some b ≠ some gb := fun k ht e => by
    injection e with e
    subst e
    have := h.pix.1
    rw [k] at this
    injection this with this
    injection this with _ h2 _
    exact ht h2
  exact ⟨h.bel.grown hg h.bel.size (by intro k hk; injection hk with hk; have := h.lw; omega), bkg hg (hne h.res (by decide)) h.res, bkg hg (hne h.img (by decide)) h.img, hp, h.view.grown hg (fun cs k => hne k (by decide)), own_far h.col hg h.lg, own_far h.off hg h.lg, h.ne, Nat.le_trans h.lb hg.size, h.lg, h.lw, h.olen, h.oin, h.oI⟩
/-- A number is put behind the grays. -/
theorem GInv.addc (h : GInv w base gp gb gm N R g vc vo os X) {z : Int} {g' : Nat} {cap : Nat} (hg : X.grownBy Y vc.ownBlock) (hown : Y.ownsRow base 3 1 (.slice (some ⟨g', 0, none⟩) (g.cs.length + 1) cap) (g.cs.length + 1) (ints g.cs ++ [.int .i64 z])) (hat : vc.ownBlock = some g' ∨ g' = X.heap.size) :
    GInv w base gp gb gm N R { g with cs := g.cs ++ [z] } (.slice (some ⟨g', 0, none⟩) (g.cs.length + 1) cap) vo os Y := by
  have hr : ∀ j, vc.ownBlock = some j → base ≤ j := fun j hj => (h.col.lt j hj).1
  refine ⟨h.bel.grown hg h.bel.size (by intro k hk; have := hr k hk; have := h.lg; have := h.lw; omega), bkg hg (ne_own h.col h.res (by decide)) h.res, bkg hg (ne_own h.col h.img (by decide)) h.img, ?_, h.view.grown hg (fun cs k => ne_own h.col k (by decide)), ?_, own_other h.off hg (fun j hj e => h.ne j e hj), ?_, Nat.le_trans h.lb hg.size, h.lg, h.lw, h.olen, h.oin, h.oI⟩
  · exact ⟨bkg hg (ne_own h.col h.pix.1 (by decide)) h.pix.1, h.pix.2⟩
  · show Y.ownsRow base _ 1 _ (g.cs ++ [z]).length (ints (g.cs ++ [z]))
    rw [List.length_append, List.length_singleton]
    simpa [ints] using hown
  · intro j hj
    have hj' : g' = j := by simpa [Value.ownBlock] using hj
    subst hj'
    rcases hat with e | e
    · exact h.ne _ e
    · intro k
      have := (h.off.lt _ k).2
      omega
/-- A number is put behind the offsets. -/
theorem GInv.addo (h : GInv w base gp gb gm N R g vc vo os X) {z : Int} {o : Int} {ins : Prop} {g' : Nat} {cap : Nat} (hg : X.grownBy Y vo.ownBlock) (hown : Y.ownsRow base 3 1 (.slice (some ⟨g', 0, none⟩) (os.length + 1) cap) (os.length + 1) (ints os ++ [.int .i64 z])) (hat : vo.ownBlock = some g' ∨ g' = X.heap.size) (hz : I64 z) (hin : ins → g.ins ∧ z = o) :
    GInv w base gp gb gm N R { g with os := g.os ++ [o], ins := ins } vc (.slice (some ⟨g', 0, none⟩) (os.length + 1) cap) (os ++ [z]) Y := by
  have hr : ∀ j, vo.ownBlock = some j → base ≤ j := fun j hj => (h.off.lt j hj).1
  refine ⟨h.bel.grown hg h.bel.size (by intro k hk; have := hr k hk; have := h.lg; have := h.lw; omega), bkg hg (ne_own h.off h.res (by decide)) h.res, bkg hg (ne_own h.off h.img (by decide)) h.img, ?_, h.view.grown hg (fun cs k => ne_own h.off k (by decide)), own_other h.col hg (fun j hj e => h.ne j hj e), ?_, ?_, Nat.le_trans h.lb hg.size, h.lg, h.lw, ?_, ?_, ?_⟩
  · exact ⟨bkg hg (ne_own h.off h.pix.1 (by decide)) h.pix.1, h.pix.2⟩
  · rw [List.length_append, List.length_singleton]
    simpa [ints] using hown
  · intro j hj k
    have hk' : g' = j := by simpa [Value.ownBlock] using k
    subst hk'
    rcases hat with e | e
    · exact h.ne _ hj e
    · have := (h.col.lt _ hj).2
      omega
  · simp [h.olen]
  · intro hi
    obtain ⟨h1, h2⟩ := hin hi
    show os ++ [z] = g.os ++ [o]
    rw [h.oin h1, h2]
  · intro u hu
    rcases List.mem_append.1 hu with hu | hu
    · exact h.oI u hu
    · rw [List.mem_singleton.1 hu]; exact hz
/-- Another state that differs in nothing that the world holds. -/
theorem GInv.weak (h : GInv w base gp gb gm N R g vc vo os X) {ins : Prop} (hi : ins → g.ins) : GInv w base gp gb gm N R { g with ins := ins } vc vo os X :=
  ⟨h.bel, h.res, h.img, h.pix, h.view, h.col, h.off, h.ne, h.lb, h.lg, h.lw, h.olen, fun k => h.oin (hi k), h.oI⟩
/-- Another image is held. -/
theorem GInv.look (h : GInv w base gp gb gm N R g vc vo os X) {gm' : Nat} {v : Option Q4} (hm : MView X gm' gb N R v) : GInv w base gp gb gm' N R { g with v := v } vc vo os X :=
  ⟨h.bel, h.res, h.img, h.pix, hm, h.col, h.off, h.ne, h.lb, h.lg, h.lw, h.olen, h.oin, h.oI⟩
end

theorem gstep1 (R : Q4) (g : GS) (s : Stp) (h : s.k = 1) : gstep R g s = { g with bs := painted R g.v g.bs s.x s.y (s.c.a % 256), ins := g.ins ∧ InsS g.v s } := by
  simp [gstep, see, h]
theorem gstep2 (R : Q4) (g : GS) (s : Stp) (h : s.k = 2) : gstep R g s = { g with cs := g.cs ++ [seen R g.v g.bs s.x s.y], ins := g.ins ∧ InsS g.v s } := by
  simp [gstep, see, h]
theorem gstep3 (R : Q4) (g : GS) (s : Stp) (h : s.k = 3) : gstep R g s = { g with os := g.os ++ [offv R g.v s], ins := g.ins ∧ InsS g.v s } := by
  simp [gstep, see, h]
theorem gstep4 (R : Q4) (g : GS) (s : Stp) (h : s.k = 4) : gstep R g s = { g with v := g.v.bind (com · s.r), ins := g.ins ∧ InsS g.v s } := by
  simp [gstep, see, h]
theorem gstep5 (R : Q4) (g : GS) (s : Stp) (h : s.k = 5) : gstep R g s = { g with v := some R, ins := g.ins ∧ InsS g.v s } := by
  simp [gstep, see, h]
theorem gstep0 (R : Q4) (g : GS) (s : Stp) (h1 : s.k ≠ 1) (h2 : s.k ≠ 2) (h3 : s.k ≠ 3) (h4 : s.k ≠ 4) (h5 : s.k ≠ 5) : gstep R g s = { g with ins := g.ins ∧ InsS g.v s } := by
  simp [gstep, see, h1, h2, h3, h4, h5]
theorem grun_take (R : Q4) (g : GS) (ss : List Stp) (k : Nat) (h : k < ss.length) : grun R g (ss.take (k + 1)) = gstep R (grun R g (ss.take k)) (ss.getD k default) := by
  rw [takes_snoc ss k h, grun_snoc]
/-- How many grays and offsets a script has at most. -/
theorem grun_len (R : Q4) (g : GS) (ss : List Stp) : (grun R g ss).cs.length ≤ g.cs.length + ss.length ∧ (grun R g ss).os.length ≤ g.os.length + ss.length := by
  induction ss generalizing g with
  | nil => exact ⟨Nat.le_refl _, Nat.le_refl _⟩
  | cons s ss ih =>
    obtain ⟨h1, h2⟩ := ih (gstep R g s)
    have e1 : (gstep R g s).cs.length ≤ g.cs.length + 1 := by show (if s.k = 2 then _ else _ : List Int).length ≤ _; split <;> simp
    have e2 : (gstep R g s).os.length ≤ g.os.length + 1 := by show (if s.k = 3 then _ else _ : List Int).length ≤ _; split <;> simp
    show (grun R (gstep R g s) ss).cs.length ≤ _ ∧ (grun R (gstep R g s) ss).os.length ≤ _
    simp only [List.length_cons]
    omega
end Go.Proofs.Ytpijljokcoocpaa

/-
  What the world holds in the midst of the reference's script. No condition.
-/
import Derived.Test.YtpijljokcoocpaaR5
import Derived.Test.YtpijljokcoocpaaS4
import Derived.Test.YtpijljokcoocpaaCM
namespace Go.Proofs.Ytpijljokcoocpaa
open Go.ChangeShapes Go.WideShapes Go.ChangeAt Go.RowKit
set_option linter.unusedVariables false
set_option linter.unusedSimpArgs false

/-- The numbers of a color that was read. -/
def colN (z : Int) : List Int := [z]
/-- Each color that was read lies in a block of its own. -/
def ColRow (X : World) (base : Nat) (vo : Value) (vs : List Value) (cs : List Int) : Prop :=
  vs.length = cs.length ∧ ∀ i, i < cs.length → ∃ g, vs[i]? = some (.slice (some ⟨g, 0, none⟩) 1 1) ∧ X.heap[g]? = some (.cells ((colN (cs.getD i 0)).map (Value.int .i64)).toArray 3 (0, 0)) ∧ base ≤ g ∧ vo.ownBlock ≠ some g
theorem ColRow.nil (X : World) (base : Nat) (vo : Value) : ColRow X base vo [] [] := ⟨rfl, fun i hi => absurd hi (Nat.not_lt_zero _)⟩
theorem ColRow.keep {X Y : World} {base : Nat} {vo vo' : Value} {vs : List Value} {cs : List Int} (h : ColRow X base vo vs cs) (hk : ∀ g o, X.heap[g]? = some (.cells o 3 (0, 0)) → base ≤ g → vo.ownBlock ≠ some g → Y.heap[g]? = X.heap[g]? ∧ vo'.ownBlock ≠ some g) : ColRow Y base vo' vs cs :=
  ⟨h.1, fun i hi => by
    obtain ⟨g, h1, h2, h3, h4⟩ := h.2 i hi
    obtain ⟨k1, k2⟩ := hk g _ h2 h3 h4
    exact ⟨g, h1, k1.trans h2, h3, k2⟩⟩
theorem ColRow.add {X : World} {base g : Nat} {vo : Value} {vs : List Value} {cs : List Int} {z : Int} (h : ColRow X base vo vs cs) (hg : X.heap[g]? = some (.cells ((colN z).map (Value.int .i64)).toArray 3 (0, 0))) (hb : base ≤ g) (hv : vo.ownBlock ≠ some g) : ColRow X base vo (vs ++ [.slice (some ⟨g, 0, none⟩) 1 1]) (cs ++ [z]) := by
  refine ⟨by simp [h.1], fun i hi => ?_⟩
  by_cases hlt : i < cs.length
  · obtain ⟨g', h1, h2, h3⟩ := h.2 i hlt
    refine ⟨g', ?_, ?_, h3⟩
    · rw [List.getElem?_append_left (by rw [h.1]; exact hlt)]; exact h1
    · rw [show (cs ++ [z]).getD i 0 = cs.getD i 0 by simp [List.getD, List.getElem?_append_left hlt]]; exact h2
  · obtain rfl : i = cs.length := by simp at hi; omega
    refine ⟨g, ?_, ?_, hb, hv⟩
    · rw [List.getElem?_append_right (by rw [h.1]; exact Nat.le_refl _), h.1]; simp
    · rw [show (cs ++ [z]).getD cs.length 0 = z by simp [List.getD]]; exact hg

/-- Two rows of different types have different blocks. -/
theorem own_ne {X : World} {b1 b2 e1 e2 s1 s2 n1 n2 : Nat} {v1 v2 : Value} {x1 x2 : List Value} (h1 : X.ownsRow b1 e1 s1 v1 n1 x1) (h2 : X.ownsRow b2 e2 s2 v2 n2 x2) (he : e1 ≠ e2) : ∀ j, v1.ownBlock = some j → v2.ownBlock ≠ some j := by
  intro j hj
  rcases h1.2 with ⟨rfl, _⟩ | ⟨g, cap, cur, rfl, hb, hg, _⟩
  · cases hj
  · have e : g = j := by simpa [Value.ownBlock] using hj
    subst e
    exact fun h => ne_own h2 hg he h.symm

/-- What the world holds in the midst of a script of the reference. -/
structure SInv (w : World) (base gr ga gs gz pb N : Nat) (R : Q4) (g : GS) (q : Q4) (sb : Bool) (vc vo : Value) (vs : List Value) (os : List Int) (X : World) : Prop where
  bel : Below w.heap.size w X
  res : X.heap[gz]? = some (.cells #[.int .i64 0, .int .i64 0, .int .i64 0, .int .i64 0, .int .i64 0, .slice none 0 0] 29 (0, 0))
  rb : X.heap[gr]? = some (.cells #[.int .i64 R.a, .int .i64 R.b, .int .i64 R.c, .int .i64 R.d] 26 (0, 0))
  al : X.heap[ga]? = some (.cells #[.int .i64 R.a, .int .i64 R.b, .int .i64 R.c, .int .i64 R.d, .int .i64 (R.c - R.a), .slice (some ⟨pb, 0, none⟩) N N] 29 (0, 0))
  se : X.heap[gs]? = some (.cells #[.int .i64 q.a, .int .i64 q.b, .int .i64 q.c, .int .i64 q.d] 26 (0, 0))
  view : (g.v = some q ∧ sb = true) ∨ (g.v = none ∧ sb = false)
  pix : IPix X pb g.bs
  col : X.ownsRow base 27 1 vc g.cs.length vs
  row : ColRow X base vo vs g.cs
  off : X.ownsRow base 3 1 vo os.length (ints os)
  lb : base ≤ X.heap.size
  lz : w.heap.size ≤ gz
  ls : w.heap.size ≤ gs
  lp : w.heap.size ≤ pb
  hp : pb < base
  hs : gs < base
  hz : gz < base
  nr : ¬ gr = gs
  na : ¬ ga = gs
  nz : ¬ gz = gs
  np : ¬ pb = gs
  nza : ¬ ga = gz
  olen : os.length = g.os.length
  oin : g.ins → os = g.os
  oI : ∀ u ∈ os, I64 u

section
variable {w X Y : World} {base gr ga gs gz pb N : Nat} {R : Q4} {g : GS} {q : Q4} {sb : Bool} {vc vo : Value} {vs : List Value} {os : List Int}
theorem SInv.below (h : SInv w base gr ga gs gz pb N R g q sb vc vo vs os X) (bc : Below X.heap.size X Y) : SInv w base gr ga gs gz pb N R g q sb vc vo vs os Y :=
  { h with bel := bst bc h.bel, res := bk bc h.res, rb := bk bc h.rb, al := bk bc h.al, se := bk bc h.se, pix := h.pix.below bc, col := own_below h.col bc, row := h.row.keep (fun g o k _ hv => ⟨bc.block g (lt_of_block k), hv⟩), off := own_below h.off bc, lb := Nat.le_trans h.lb bc.size }
theorem SInv.set (h : SInv w base gr ga gs gz pb N R g q sb vc vo vs os X) (hg : X.grownBy Y (some pb)) {bs : List Int} (hp : IPix Y pb bs) : SInv w base gr ga gs gz pb N R { g with bs := bs } q sb vc vo vs os Y := by
  have hne : ∀ {b cs t fr}, X.heap[b]? = some (.cells cs t fr) → t ≠ 3 → some b ≠ some pb := fun k ht e => by
    injection e with e
    subst e
    have := h.pix.1
    rw [k] at this
    injection this with this
    injection this with _ h2 _
    exact ht h2
  exact { h with bel := h.bel.grown hg h.bel.size (by intro k hk; injection hk with hk; have := h.lp; omega), res := bkg hg (hne h.res (by decide)) h.res, rb := bkg hg (hne h.rb (by decide)) h.rb, al := bkg hg (hne h.al (by decide)) h.al, se := bkg hg (hne h.se (by decide)) h.se, pix := hp, col := own_far h.col hg h.hp, row := h.row.keep (fun g o k hb hv => ⟨hg.block g (lt_of_block k) (by intro e; injection e with e; have := h.hp; omega), hv⟩), off := own_far h.off hg h.hp, lb := Nat.le_trans h.lb hg.size }
/-- Another rectangle is seen. -/
theorem SInv.look (h : SInv w base gr ga gs gz pb N R g q sb vc vo vs os X) {p : Q4} {sb' : Bool} {v : Option Q4} (hv : (v = some p ∧ sb' = true) ∨ (v = none ∧ sb' = false)) :
    SInv w base gr ga gs gz pb N R { g with v := v } p sb' vc vo vs os ((((X.setCell ⟨gs, 0, none⟩ (.int .i64 p.a)).setCell ⟨gs, 1, none⟩ (.int .i64 p.b)).setCell ⟨gs, 2, none⟩ (.int .i64 p.c)).setCell ⟨gs, 3, none⟩ (.int .i64 p.d)) := by
  have hS := h.hs
  have h4 : ∀ {b o}, ¬ b = gs → X.heap[b]? = some o → ((((X.setCell ⟨gs, 0, none⟩ (.int .i64 p.a)).setCell ⟨gs, 1, none⟩ (.int .i64 p.b)).setCell ⟨gs, 2, none⟩ (.int .i64 p.c)).setCell ⟨gs, 3, none⟩ (.int .i64 p.d)).heap[b]? = some o := fun hn k => bks hn (bks hn (bks hn (bks hn k)))
  have own4 : ∀ {e size v n xs}, X.ownsRow base e size v n xs → ((((X.setCell ⟨gs, 0, none⟩ (.int .i64 p.a)).setCell ⟨gs, 1, none⟩ (.int .i64 p.b)).setCell ⟨gs, 2, none⟩ (.int .i64 p.c)).setCell ⟨gs, 3, none⟩ (.int .i64 p.d)).ownsRow base e size v n xs := fun k =>
    ownsRow_setCell_below (ownsRow_setCell_below (ownsRow_setCell_below (ownsRow_setCell_below k (a := ⟨gs, 0, none⟩) hS _) (a := ⟨gs, 1, none⟩) hS _) (a := ⟨gs, 2, none⟩) hS _) (a := ⟨gs, 3, none⟩) hS _
  exact { h with bel := bss h.ls (bss h.ls (bss h.ls (bss h.ls h.bel))), res := h4 h.nz h.res, rb := h4 h.nr h.rb, al := h4 h.na h.al, se := q4s h.se, view := hv, pix := ⟨h4 h.np h.pix.1, h.pix.2⟩, col := own4 h.col, row := h.row.keep (fun g o k hb hv => ⟨(h4 (by intro e; omega) k).trans k.symm, hv⟩), off := own4 h.off, lb := by have := h.lb; simpa [World.setCell] using this }
/-- A color is put behind those that were read. -/
theorem SInv.addc (h : SInv w base gr ga gs gz pb N R g q sb vc vo vs os X) {z : Int} {gn g' cap : Nat} (hz : X.heap[gn]? = some (.cells ((colN z).map (Value.int .i64)).toArray 3 (0, 0))) (hb : base ≤ gn) (hv : vo.ownBlock ≠ some gn) (hg : X.grownBy Y vc.ownBlock)
    (hown : Y.ownsRow base 27 1 (.slice (some ⟨g', 0, none⟩) (g.cs.length + 1) cap) (g.cs.length + 1) (vs ++ [.slice (some ⟨gn, 0, none⟩) 1 1])) :
    SInv w base gr ga gs gz pb N R { g with cs := g.cs ++ [z] } q sb (.slice (some ⟨g', 0, none⟩) (g.cs.length + 1) cap) vo (vs ++ [.slice (some ⟨gn, 0, none⟩) 1 1]) os Y := by
  have hr : ∀ j, vc.ownBlock = some j → base ≤ j := fun j hj => (h.col.lt j hj).1
  exact { h with bel := h.bel.grown hg h.bel.size (by intro k hk; have := hr k hk; have := h.hp; have := h.lp; omega), res := bkg hg (ne_own h.col h.res (by decide)) h.res, rb := bkg hg (ne_own h.col h.rb (by decide)) h.rb, al := bkg hg (ne_own h.col h.al (by decide)) h.al, se := bkg hg (ne_own h.col h.se (by decide)) h.se, pix := ⟨bkg hg (ne_own h.col h.pix.1 (by decide)) h.pix.1, h.pix.2⟩, col := (by show Y.ownsRow base _ 1 _ (g.cs ++ [z]).length _; rw [List.length_append, List.length_singleton]; exact hown), row := (h.row.add hz hb hv).keep (fun g o k _ hv => ⟨hg.block g (lt_of_block k) (ne_own h.col k (by decide)), hv⟩), off := own_other h.off hg (fun j hj e => own_ne h.off h.col (by decide) j hj e), lb := Nat.le_trans h.lb hg.size }
/-- A number is put behind the offsets. -/
theorem SInv.addo (h : SInv w base gr ga gs gz pb N R g q sb vc vo vs os X) {z o : Int} {ins : Prop} {g' cap : Nat} (hg : X.grownBy Y vo.ownBlock) (hown : Y.ownsRow base 3 1 (.slice (some ⟨g', 0, none⟩) (os.length + 1) cap) (os.length + 1) (ints os ++ [.int .i64 z])) (hat : vo.ownBlock = some g' ∨ g' = X.heap.size) (hz : I64 z) (hin : ins → g.ins ∧ z = o) :
    SInv w base gr ga gs gz pb N R { g with os := g.os ++ [o], ins := ins } q sb vc (.slice (some ⟨g', 0, none⟩) (os.length + 1) cap) vs (os ++ [z]) Y := by
  have hr : ∀ j, vo.ownBlock = some j → base ≤ j := fun j hj => (h.off.lt j hj).1
  have hnw : ∀ b, b < X.heap.size → vo.ownBlock ≠ some b → (Value.slice (some ⟨g', 0, none⟩) (os.length + 1) cap).ownBlock ≠ some b := by
    intro b hb hv e
    have e' : g' = b := by simpa [Value.ownBlock] using e
    subst e'
    rcases hat with e1 | e1
    · exact hv e1
    · omega
  exact { h with bel := h.bel.grown hg h.bel.size (by intro k hk; have := hr k hk; have := h.hp; have := h.lp; omega), res := bkg hg (ne_own h.off h.res (by decide)) h.res, rb := bkg hg (ne_own h.off h.rb (by decide)) h.rb, al := bkg hg (ne_own h.off h.al (by decide)) h.al, se := bkg hg (ne_own h.off h.se (by decide)) h.se, pix := ⟨bkg hg (by intro e; have := hr pb e.symm; have := h.hp; omega) h.pix.1, h.pix.2⟩, col := own_other h.col hg (fun j hj e => own_ne h.col h.off (by decide) j hj e), row := h.row.keep (fun b o k _ hv => ⟨hg.block b (lt_of_block k) (fun e => hv e.symm), hnw b (lt_of_block k) hv⟩), off := (by rw [List.length_append, List.length_singleton]; simpa [ints] using hown), lb := Nat.le_trans h.lb hg.size, olen := (by simp [h.olen]), oin := (fun hi => by obtain ⟨h1, h2⟩ := hin hi; show os ++ [z] = g.os ++ [o]; rw [h.oin h1, h2]), oI := (fun u hu => by rcases List.mem_append.1 hu with hu | hu; exact h.oI u hu; rw [List.mem_singleton.1 hu]; exact hz) }
theorem SInv.weak (h : SInv w base gr ga gs gz pb N R g q sb vc vo vs os X) {ins : Prop} (hi : ins → g.ins) : SInv w base gr ga gs gz pb N R { g with ins := ins } q sb vc vo vs os X :=
  { h with oin := fun k => h.oin (hi k) }
end
end Go.Proofs.Ytpijljokcoocpaa
